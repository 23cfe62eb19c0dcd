import PyProof.Rows.All
import Wide.All
import OpenK.AllK
import Wide.FinOn
import Lean
import PySem.Challenge.RW_wf0121_01
set_option Elab.async false
set_option linter.all false
set_option tactic.hygienic false
set_option genSizeOf false
set_option genInjectivity false
set_option bootstrap.genMatcherCode false
set_option maxRecDepth 100000
namespace Mine
open List (all_cons all_eq_true all_map any_eq_true any_map append_assoc append_nil append_toArray cons_append cons_ne_nil contains_iff_mem dropLast_concat_getLast dropLast_eq_take dropLast_sublist dropLast_subset drop_drop drop_eq_getElem_cons drop_left drop_length drop_of_length_le drop_sublist drop_subset drop_zero eraseIdx_eq_take_drop_succ exists_cons_of_ne_nil ext_getElem filterMap_cons filter_cons filter_cons_of_neg filter_cons_of_pos filter_eq_nil_iff filter_nil find?_cons find?_toArray findIdx?_eq_some_iff_getElem findIdx_getElem findIdx_lt_length flatMap_append flatMap_cons flatMap_nil flatten_append flatten_cons flatten_nil foldl_cons forIn_cons forIn_nil forall_mem_cons getElem?_cons_succ getElem?_drop getElem?_eq_none getElem?_inj getElem?_map getElem?_of_mem getElem?_range getElem?_set getElem?_set_ne getElem?_set_self getElem?_take getElem?_toArray getElem_idxOf getElem_inj getElem_mem getLast?_eq_getElem? getLast?_eq_none_iff getLast?_eq_some_getLast getLast?_eq_some_iff getLast?_map getLast_mem idxOf_lt_length_iff isEmpty_iff isEmpty_map length_append length_cons length_drop length_eq_zero_iff length_erase length_filter_le length_map length_nil length_pos_iff length_range length_set length_singleton length_take length_take_le' lookup_append lookup_cons map_append map_congr_left map_cons map_drop map_dropLast map_map map_mergeSort map_nil map_set map_singleton map_take mem_append mem_append_left mem_append_right mem_cons mem_cons_of_mem mem_cons_self mem_filter mem_flatMap mem_flatten mem_iff_getElem? mem_map mem_map_of_mem mem_of_getElem? mem_of_getLast? mem_of_mem_drop mem_of_mem_take mem_range mem_reverse mem_singleton mem_singleton_self mem_take_iff_getElem mem_toArray mergeSort_perm ne_nil_of_mem nil_append nodup_append nodup_cons nodup_iff_pairwise_ne nodup_nil nodup_range not_mem_nil of_mem_zip pairwise_append pairwise_cons pairwise_iff_getElem pairwise_lt_range pairwise_map pairwise_mergeSort pairwise_singleton prefix_append prefix_rfl range'_succ range_eq_range' range_succ_eq_map reverse_cons set_append_right set_set singleton_append size_toArray sum_cons take_left take_of_length_le take_subset take_succ_cons toList_toArray zip_cons_cons zip_nil_right)
open Nat (add_comm add_mod_right add_right_cancel_iff add_right_comm add_sub_cancel add_sub_cancel_left and_le_left and_le_right and_one_is_mod ble_eq ble_eq_true_of_le eq_of_testBit_eq le_add_left le_add_left_of_le le_add_right le_antisymm le_max_left le_max_right le_of_ble_eq_true le_of_eq le_of_lt le_of_lt_succ le_of_succ_le le_of_succ_le_succ le_refl le_succ le_succ_of_le le_total le_trans le_zero left_le_or lt_add_left lt_add_right lt_irrefl lt_of_le_of_lt lt_of_le_of_ne lt_of_lt_of_le lt_of_not_le lt_succ_self lt_trans lt_trichotomy min_eq_left min_eq_right mod_eq_of_lt mod_lt mod_two_eq_zero_or_one ne_of_gt ne_of_lt not_lt or_lt_two_pow pow_le_pow_right shiftRight_eq_div_pow sub_le sub_self sub_zero succ_le_succ testBit_and testBit_lt_two_pow testBit_or testBit_two_pow testBit_two_pow_sub_one testBit_two_pow_sub_succ zero_le zero_lt_succ zero_min zero_testBit)
open Option (bind_eq_some_iff bind_some getD_some isNone_iff_eq_none isSome_eq_false_iff isSome_iff_exists join_eq_some_iff map_eq_none_iff map_eq_some_iff map_some none_or)
open Array (eq_empty_iff_forall_not_mem find?_eq_none findIdx?_eq_none_iff getElem?_push_size getElem?_toList length_toList toArray_toList toList_append toList_eraseIdx toList_inj toList_push toList_setIfInBounds)
noncomputable section
theorem xe{α:Sort _}{p1:α→Prop}{P:Prop}(h:∃a0,p1 a0)(k:∀a0,p1 a0→P):P:=h.elim λa0 h1=>k a0 h1
theorem xa{p1:Prop}{p2:Prop}{P:Prop}(h:p1∧p2)(k:p1→p2→P):P:=k h.1 h.2
theorem Aj{α:Sort _}{p1:α→Prop}{p2:α→Prop}{P:Prop}(h:∃a0,p1 a0∧p2 a0)(k:∀a0,p1 a0→p2 a0→P):P:=h.elim λa0 h1=>k a0 h1.1 h1.2
theorem Op{α:Sort _}{β:Sort _}{p1:α→β→Prop}{P:Prop}(h:∃a0,∃a1,p1 a0 a1)(k:∀a0,∀a1,p1 a0 a1→P):P:=h.elim λa0 h1=>h1.elim λa1 h2=>k a0 a1 h2
theorem Pb{p1:Prop}{p2:Prop}{p3:Prop}{P:Prop}(h:p1∧p2∧p3)(k:p1→p2→p3→P):P:=k h.1 h.2.1 h.2.2
theorem D7{α:Sort _}{p1:α→Prop}{p2:α→Prop}{p3:α→Prop}{P:Prop}(h:∃a0,p1 a0∧p2 a0∧p3 a0)(k:∀a0,p1 a0→p2 a0→p3 a0→P):P:=h.elim λa0 h1=>k a0 h1.1 h1.2.1 h1.2.2
theorem Kt{α:Sort _}{β:Sort _}{p1:α→β→Prop}{p2:α→β→Prop}{P:Prop}(h:∃a0,∃a1,p1 a0 a1∧p2 a0 a1)(k:∀a0,∀a1,p1 a0 a1→p2 a0 a1→P):P:=h.elim λa0 h1=>h1.elim λa1 h2=>k a0 a1 h2.1 h2.2
theorem Uw{p1:Prop}{p2:Prop}{p3:Prop}{p4:Prop}{P:Prop}(h:p1∧p2∧p3∧p4)(k:p1→p2→p3→p4→P):P:=k h.1 h.2.1 h.2.2.1 h.2.2.2
theorem Axo{α:Sort _}{p1:Prop}{p2:α→Prop}{p3:α→Prop}{P:Prop}(h:p1∧(∃a0,p2 a0∧p3 a0))(k:p1→∀a0,p2 a0→p3 a0→P):P:=h.2.elim λa0 h1=>k h.1 a0 h1.1 h1.2
theorem Ot{α:Sort _}{β:Sort _}{γ:Sort _}{p1:α→β→γ→Prop}{P:Prop}(h:∃a0,∃a1,∃a2,p1 a0 a1 a2)(k:∀a0,∀a1,∀a2,p1 a0 a1 a2→P):P:=h.elim λa0 h1=>h1.elim λa1 h2=>h2.elim λa2 h3=>k a0 a1 a2 h3
theorem Cc{α:Sort _}{β:Sort _}{p1:α→β→Prop}{p2:α→β→Prop}{p3:α→β→Prop}{P:Prop}(h:∃a0,∃a1,p1 a0 a1∧p2 a0 a1∧p3 a0 a1)(k:∀a0,∀a1,p1 a0 a1→p2 a0 a1→p3 a0 a1→P):P:=h.elim λa0 h1=>h1.elim λa1 h2=>k a0 a1 h2.1 h2.2.1 h2.2.2
theorem Ip{α:Sort _}{β:Sort _}{γ:Sort _}{p1:α→β→γ→Prop}{p2:α→β→γ→Prop}{P:Prop}(h:∃a0,∃a1,∃a2,p1 a0 a1 a2∧p2 a0 a1 a2)(k:∀a0,∀a1,∀a2,p1 a0 a1 a2→p2 a0 a1 a2→P):P:=h.elim λa0 h1=>h1.elim λa1 h2=>h2.elim λa2 h3=>k a0 a1 a2 h3.1 h3.2
theorem Ajd{α:Sort _}{p1:α→Prop}{p2:α→Prop}{p3:α→Prop}{p4:α→Prop}{P:Prop}(h:∃a0,p1 a0∧p2 a0∧p3 a0∧p4 a0)(k:∀a0,p1 a0→p2 a0→p3 a0→p4 a0→P):P:=h.elim λa0 h1=>k a0 h1.1 h1.2.1 h1.2.2.1 h1.2.2.2
theorem Qj{p1:Prop}{p2:Prop}{p3:Prop}{p4:Prop}{p5:Prop}{P:Prop}(h:p1∧p2∧p3∧p4∧p5)(k:p1→p2→p3→p4→p5→P):P:=k h.1 h.2.1 h.2.2.1 h.2.2.2.1 h.2.2.2.2
theorem Jc{α:Sort _}{β:Sort _}{p1:α→β→Prop}{p2:α→β→Prop}{p3:α→β→Prop}{p4:α→β→Prop}{P:Prop}(h:∃a0,∃a1,p1 a0 a1∧p2 a0 a1∧p3 a0 a1∧p4 a0 a1)(k:∀a0,∀a1,p1 a0 a1→p2 a0 a1→p3 a0 a1→p4 a0 a1→P):P:=h.elim λa0 h1=>h1.elim λa1 h2=>k a0 a1 h2.1 h2.2.1 h2.2.2.1 h2.2.2.2
theorem Au{α:Sort _}{β:Sort _}{γ:Sort _}{p1:α→β→γ→Prop}{p2:α→β→γ→Prop}{p3:α→β→γ→Prop}{P:Prop}(h:∃a0,∃a1,∃a2,p1 a0 a1 a2∧p2 a0 a1 a2∧p3 a0 a1 a2)(k:∀a0,∀a1,∀a2,p1 a0 a1 a2→p2 a0 a1 a2→p3 a0 a1 a2→P):P:=h.elim λa0 h1=>h1.elim λa1 h2=>h2.elim λa2 h3=>k a0 a1 a2 h3.1 h3.2.1 h3.2.2
theorem Jp{α:Sort _}{β:Sort _}{γ:Sort _}{δ:Sort _}{p1:α→β→γ→δ→Prop}{P:Prop}(h:∃a0,∃a1,∃a2,∃a3,p1 a0 a1 a2 a3)(k:∀a0,∀a1,∀a2,∀a3,p1 a0 a1 a2 a3→P):P:=h.elim λa0 h1=>h1.elim λa1 h2=>h2.elim λa2 h3=>h3.elim λa3 h4=>k a0 a1 a2 a3 h4
theorem Ar{α:Sort _}{β:Sort _}{γ:Sort _}{p1:α→β→γ→Prop}{p2:α→β→γ→Prop}{p3:α→β→γ→Prop}{p4:α→β→γ→Prop}{P:Prop}(h:∃a0,∃a1,∃a2,p1 a0 a1 a2∧p2 a0 a1 a2∧p3 a0 a1 a2∧p4 a0 a1 a2)(k:∀a0,∀a1,∀a2,p1 a0 a1 a2→p2 a0 a1 a2→p3 a0 a1 a2→p4 a0 a1 a2→P):P:=h.elim λa0 h1=>h1.elim λa1 h2=>h2.elim λa2 h3=>k a0 a1 a2 h3.1 h3.2.1 h3.2.2.1 h3.2.2.2
theorem E3{α:Sort _}{β:Sort _}{γ:Sort _}{p1:α→β→γ→Prop}{p2:α→β→γ→Prop}{p3:α→β→γ→Prop}{p4:α→β→γ→Prop}{p5:α→β→γ→Prop}{P:Prop}(h:∃a0,∃a1,∃a2,p1 a0 a1 a2∧p2 a0 a1 a2∧p3 a0 a1 a2∧p4 a0 a1 a2∧p5 a0 a1 a2)(k:∀a0,∀a1,∀a2,p1 a0 a1 a2→p2 a0 a1 a2→p3 a0 a1 a2→p4 a0 a1 a2→p5 a0 a1 a2→P):P:=h.elim λa0 h1=>h1.elim λa1 h2=>h2.elim λa2 h3=>k a0 a1 a2 h3.1 h3.2.1 h3.2.2.1 h3.2.2.2.1 h3.2.2.2.2
theorem O3{α:Sort _}{p1:α→Prop}{p2:α→Prop}{p3:α→Prop}{p4:α→Prop}{p5:α→Prop}{P:Prop}(h:∃a0,p1 a0∧p2 a0∧p3 a0∧p4 a0∧p5 a0)(k:∀a0,p1 a0→p2 a0→p3 a0→p4 a0→p5 a0→P):P:=h.elim λa0 h1=>k a0 h1.1 h1.2.1 h1.2.2.1 h1.2.2.2.1 h1.2.2.2.2
theorem Fk{α:Sort _}{β:Sort _}{p1:Prop}{p2:α→β→Prop}{p3:α→β→Prop}{P:Prop}(h:p1∧(∃a0,∃a1,p2 a0 a1∧p3 a0 a1))(k:p1→∀a0,∀a1,p2 a0 a1→p3 a0 a1→P):P:=h.2.elim λa0 h1=>h1.elim λa1 h2=>k h.1 a0 a1 h2.1 h2.2
theorem Ab3{α:Sort _}{p1:Prop}{p2:Prop}{p3:α→Prop}{p4:α→Prop}{P:Prop}(h:p1∧p2∧(∃a0,p3 a0∧p4 a0))(k:p1→p2→∀a0,p3 a0→p4 a0→P):P:=h.2.2.elim λa0 h1=>k h.1 h.2.1 a0 h1.1 h1.2
theorem xae{α:Sort _}{p1:Prop}{p2:α→Prop}{P:Prop}(h:p1∧(∃a0,p2 a0))(k:p1→∀a0,p2 a0→P):P:=h.2.elim λa0 h1=>k h.1 a0 h1
theorem I3{α:Sort _}{β:Sort _}{γ:Sort _}{p1:α→β→γ→Prop}{p2:α→β→γ→Prop}{p3:α→β→γ→Prop}{p4:α→β→γ→Prop}{p5:α→β→γ→Prop}{p6:α→β→γ→Prop}{P:Prop}(h:∃a0,∃a1,∃a2,p1 a0 a1 a2∧p2 a0 a1 a2∧p3 a0 a1 a2∧p4 a0 a1 a2∧p5 a0 a1 a2∧p6 a0 a1 a2)(k:∀a0,∀a1,∀a2,p1 a0 a1 a2→p2 a0 a1 a2→p3 a0 a1 a2→p4 a0 a1 a2→p5 a0 a1 a2→p6 a0 a1 a2→P):P:=h.elim λa0 h1=>h1.elim λa1 h2=>h2.elim λa2 h3=>k a0 a1 a2 h3.1 h3.2.1 h3.2.2.1 h3.2.2.2.1 h3.2.2.2.2.1 h3.2.2.2.2.2
theorem Lm{α:Sort _}{β:Sort _}{p1:α→β→Prop}{p2:α→β→Prop}{p3:α→β→Prop}{p4:α→β→Prop}{p5:α→β→Prop}{p6:α→β→Prop}{P:Prop}(h:∃a0,∃a1,p1 a0 a1∧p2 a0 a1∧p3 a0 a1∧p4 a0 a1∧p5 a0 a1∧p6 a0 a1)(k:∀a0,∀a1,p1 a0 a1→p2 a0 a1→p3 a0 a1→p4 a0 a1→p5 a0 a1→p6 a0 a1→P):P:=h.elim λa0 h1=>h1.elim λa1 h2=>k a0 a1 h2.1 h2.2.1 h2.2.2.1 h2.2.2.2.1 h2.2.2.2.2.1 h2.2.2.2.2.2
theorem Zz{α:Sort _}{β:Sort _}{γ:Sort _}{δ:Sort _}{p1:α→β→γ→δ→Prop}{p2:α→β→γ→δ→Prop}{P:Prop}(h:∃a0,∃a1,∃a2,∃a3,p1 a0 a1 a2 a3∧p2 a0 a1 a2 a3)(k:∀a0,∀a1,∀a2,∀a3,p1 a0 a1 a2 a3→p2 a0 a1 a2 a3→P):P:=h.elim λa0 h1=>h1.elim λa1 h2=>h2.elim λa2 h3=>h3.elim λa3 h4=>k a0 a1 a2 a3 h4.1 h4.2
theorem T7{α:Sort _}{β:Sort _}{γ:Sort _}{p1:α→β→γ→Prop}{p2:α→β→γ→Prop}{p3:α→β→γ→Prop}{p4:α→β→γ→Prop}{p5:α→β→γ→Prop}{p6:α→β→γ→Prop}{p7:α→β→γ→Prop}{P:Prop}(h:∃a0,∃a1,∃a2,p1 a0 a1 a2∧p2 a0 a1 a2∧p3 a0 a1 a2∧p4 a0 a1 a2∧p5 a0 a1 a2∧p6 a0 a1 a2∧p7 a0 a1 a2)(k:∀a0,∀a1,∀a2,p1 a0 a1 a2→p2 a0 a1 a2→p3 a0 a1 a2→p4 a0 a1 a2→p5 a0 a1 a2→p6 a0 a1 a2→p7 a0 a1 a2→P):P:=h.elim λa0 h1=>h1.elim λa1 h2=>h2.elim λa2 h3=>k a0 a1 a2 h3.1 h3.2.1 h3.2.2.1 h3.2.2.2.1 h3.2.2.2.2.1 h3.2.2.2.2.2.1 h3.2.2.2.2.2.2
theorem Ju{α:Sort _}{β:Sort _}{γ:Sort _}{δ:Sort _}{p1:α→β→γ→δ→Prop}{p2:α→β→γ→δ→Prop}{p3:α→β→γ→δ→Prop}{p4:α→β→γ→δ→Prop}{p5:α→β→γ→δ→Prop}{p6:α→β→γ→δ→Prop}{p7:α→β→γ→δ→Prop}{P:Prop}(h:∃a0,∃a1,∃a2,∃a3,p1 a0 a1 a2 a3∧p2 a0 a1 a2 a3∧p3 a0 a1 a2 a3∧p4 a0 a1 a2 a3∧p5 a0 a1 a2 a3∧p6 a0 a1 a2 a3∧p7 a0 a1 a2 a3)(k:∀a0,∀a1,∀a2,∀a3,p1 a0 a1 a2 a3→p2 a0 a1 a2 a3→p3 a0 a1 a2 a3→p4 a0 a1 a2 a3→p5 a0 a1 a2 a3→p6 a0 a1 a2 a3→p7 a0 a1 a2 a3→P):P:=h.elim λa0 h1=>h1.elim λa1 h2=>h2.elim λa2 h3=>h3.elim λa3 h4=>k a0 a1 a2 a3 h4.1 h4.2.1 h4.2.2.1 h4.2.2.2.1 h4.2.2.2.2.1 h4.2.2.2.2.2.1 h4.2.2.2.2.2.2
theorem Id{α:Sort _}{β:Sort _}{γ:Sort _}{p1:α→Prop}{p2:α→β→γ→Prop}{p3:α→β→γ→Prop}{p4:α→β→γ→Prop}{p5:α→β→γ→Prop}{P:Prop}(h:∃a0,p1 a0∧(∃a1,∃a2,p2 a0 a1 a2∧p3 a0 a1 a2∧p4 a0 a1 a2∧p5 a0 a1 a2))(k:∀a0,p1 a0→∀a1,∀a2,p2 a0 a1 a2→p3 a0 a1 a2→p4 a0 a1 a2→p5 a0 a1 a2→P):P:=h.elim λa0 h1=>h1.2.elim λa1 h2=>h2.elim λa2 h3=>k a0 h1.1 a1 a2 h3.1 h3.2.1 h3.2.2.1 h3.2.2.2
theorem Wx{α:Sort _}{β:Sort _}{γ:Sort _}{δ:Sort _}{p1:α→β→γ→δ→Prop}{p2:α→β→γ→δ→Prop}{p3:α→β→γ→δ→Prop}{P:Prop}(h:∃a0,∃a1,∃a2,∃a3,p1 a0 a1 a2 a3∧p2 a0 a1 a2 a3∧p3 a0 a1 a2 a3)(k:∀a0,∀a1,∀a2,∀a3,p1 a0 a1 a2 a3→p2 a0 a1 a2 a3→p3 a0 a1 a2 a3→P):P:=h.elim λa0 h1=>h1.elim λa1 h2=>h2.elim λa2 h3=>h3.elim λa3 h4=>k a0 a1 a2 a3 h4.1 h4.2.1 h4.2.2
theorem S2{α:Sort _}{β:Sort _}{γ:Sort _}{δ:Sort _}{ε:Sort _}{p1:α→β→γ→δ→ε→Prop}{p2:α→β→γ→δ→ε→Prop}{p3:α→β→γ→δ→ε→Prop}{P:Prop}(h:∃a0,∃a1,∃a2,∃a3,∃a4,p1 a0 a1 a2 a3 a4∧p2 a0 a1 a2 a3 a4∧p3 a0 a1 a2 a3 a4)(k:∀a0,∀a1,∀a2,∀a3,∀a4,p1 a0 a1 a2 a3 a4→p2 a0 a1 a2 a3 a4→p3 a0 a1 a2 a3 a4→P):P:=h.elim λa0 h1=>h1.elim λa1 h2=>h2.elim λa2 h3=>h3.elim λa3 h4=>h4.elim λa4 h5=>k a0 a1 a2 a3 a4 h5.1 h5.2.1 h5.2.2
theorem Nr{α:Sort _}{β:Sort _}{p1:α→β→Prop}{p2:α→β→Prop}{p3:α→β→Prop}{p4:α→β→Prop}{p5:α→β→Prop}{p6:α→β→Prop}{p7:α→β→Prop}{P:Prop}(h:∃a0,∃a1,p1 a0 a1∧p2 a0 a1∧p3 a0 a1∧p4 a0 a1∧p5 a0 a1∧p6 a0 a1∧p7 a0 a1)(k:∀a0,∀a1,p1 a0 a1→p2 a0 a1→p3 a0 a1→p4 a0 a1→p5 a0 a1→p6 a0 a1→p7 a0 a1→P):P:=h.elim λa0 h1=>h1.elim λa1 h2=>k a0 a1 h2.1 h2.2.1 h2.2.2.1 h2.2.2.2.1 h2.2.2.2.2.1 h2.2.2.2.2.2.1 h2.2.2.2.2.2.2
theorem Ap9{α:Sort _}{β:Sort _}{p1:α→Prop}{p2:α→β→Prop}{p3:α→β→Prop}{P:Prop}(h:∃a0,p1 a0∧(∃a1,p2 a0 a1∧p3 a0 a1))(k:∀a0,p1 a0→∀a1,p2 a0 a1→p3 a0 a1→P):P:=h.elim λa0 h1=>h1.2.elim λa1 h2=>k a0 h1.1 a1 h2.1 h2.2
theorem Ay{α β:Type}{o:Option α}{f:α→Option β}{b:β}{P:Prop}(h:o.bind f=some b)(k:∀a,o=some a→f a=some b→P):P:=(bind_eq_some_iff.mp h).elim λa h=>k a h.1 h.2
theorem Ch{α β:Type}{o:Option α}{f:α→β}{b:β}{P:Prop}(h:o.map f=some b)(k:∀a,o=some a→f a=b→P):P:=(map_eq_some_iff.mp h).elim λa h=>k a h.1 h.2
theorem Am{α:Type _}{a:α}{P:Prop}(h:none=some a):P:=nomatch h
theorem nso{α:Type _}{a:α}{P:Prop}(h:some a=none):P:=nomatch h
theorem J3{P:Prop}(h:true=false):P:=nomatch h
theorem Ff{P:Prop}(h:false=true):P:=nomatch h
theorem nnc{α:Type _}{a:α}{l:List α}{P:Prop}(h:[]=a::l):P:=nomatch h
theorem ncn{α:Type _}{a:α}{l:List α}{P:Prop}(h:a::l=[]):P:=nomatch h
theorem bdq{α β γ:Type}{o:Option (α×β)}{f:α×β→Option γ}{b:γ}{P:Prop}(h:o.bind f=some b)(k:∀x y,o=some (x,y)→f (x,y)=some b→P):P:=(bind_eq_some_iff.mp h).elim λa h=>k a.1 a.2 h.1 h.2
@[elab_as_elim] theorem Gc{α:Type _}{a b:α}{P:α→Prop}(h:some a=some b)(k:P a):P b:=Option.some.inj h▸k
@[elab_as_elim] theorem spr{α:Type _}{a b:α}{P:α→Prop}(h:some b=some a)(k:P a):P b:=Option.some.inj h▸k
@[elab_as_elim] theorem Bi{α β:Type _}{a c:α}{b d:β}{P:α→β→Prop}(h:some (a,b)=some (c,d))(k:P a b):P c d:=by cases h;exact k
@[elab_as_elim] theorem Cp{α β:Type _}{a c:α}{b d:β}{P:α→β→Prop}(h:(a,b)=(c,d))(k:P a b):P c d:=by cases h;exact k
@[elab_as_elim] theorem eqk{α:Type _}{a b:α}{P:α→Prop}(h:a=b)(k:P a):P b:=h▸k
@[elab_as_elim] theorem eqr{α:Type _}{a b:α}{P:α→Prop}(h:b=a)(k:P a):P b:=h▸k
end
noncomputable section
open PySem PySem.W PySem.Calls PyProof.Rows
noncomputable abbrev A6:Program:=PySem.Challenge.pw_wf0121_01
noncomputable def Tj:List Stmt:=behindTheImports A6
noncomputable def st(i:Nat):Stmt:=Tj[i]?.getD (.Pass default)
noncomputable def Fg(i j:Nat):Stmt:=match st i with
 | .ClassDef _ _ _ b _ _ _ _ _ _ _=>b[j]?.getD (.Pass default)
 | s=>s
noncomputable def fnP:Stmt→Arguments
 | .FunctionDef _ a _ _ _ _ _ _ _ _=>a
 | _=>⟨[],[],none,[],[],none,[]⟩
noncomputable def Ft:Stmt→List Stmt
 | .FunctionDef _ _ b _ _ _ _ _ _ _=>b
 | _=>[]
noncomputable def Ke:Stmt→Scope
 | .FunctionDef _ _ _ _ _ _ s _ _ _=>s
 | _=>default
noncomputable def Ato:Expr→Option (Int×Nat×Pos)
 | .Constant c n p=>match c with
  | .int k=>some (k,n,p)
  | _=>none
 | _=>none
noncomputable def Aph:Expr→Option (Str×Nat×Pos)
 | .Constant c n p=>match c with
  | .str k=>some (k,n,p)
  | _=>none
 | _=>none
noncomputable def Au2:Expr→Option (Str×Pos)
 | .Name n p=>some (n,p)
 | _=>none
noncomputable def Aqp:Expr→Option (List (Option Expr)×List Expr×Pos)
 | .Dict ks vs p=>some (ks,vs,p)
 | _=>none
noncomputable def Lo:List (Option Expr)→List Expr→Option (List (Int×Str))
 | [],vs=>cond vs.isEmpty (some []) none
 | k::ks,vs=>(k.bind Ato).bind λa=>vs.head?.bind λv=>(Aph v).bind λb=>(Lo ks vs.tail).map ((a.1,b.1) :: ·)
noncomputable def Agv:Stmt→Option (Str×Pos×List (Option Expr)×List Expr×Pos×Pos)
 | .Assign ts e p3=>ts.head?.bind λt=>cond ts.tail.isEmpty ((Au2 t).bind λa=>(Aqp e).bind λb=>some (a.1,a.2,b.1,b.2.1,b.2.2,p3)) none
 | _=>none
noncomputable def Xl:List (Option Expr):=((Agv (st 8)).map λx=>x.2.2.1).getD []
noncomputable def Ya:List Expr:=((Agv (st 8)).map λx=>x.2.2.2.1).getD []
noncomputable def Mf:List (Int×Str):=(Lo Xl Ya).getD []
structure ST where
 t:BT
 n:Nat
 tk:Nat
noncomputable def En{α:Type}(cf:Ctx→Pos→ST→Option (Result×ST))(S:Setting)(Γ:Ctx):Sem α→Pos→ST→Option (Except Value α×Pos×ST)
 | .pure a,p,s=>some (.ok a,p,s)
 | .raise e,p,s=>some (.error e,p,s)
 | .rule _ k,p,s=>En cf S Γ (k ()) p s
 | .at p' k,_,s=>En cf S Γ (k ()) p' s
 | .load a _ k,p,s=>cond (Nat.blt a s.n) ((s.t.get a).bind λo=>(alive o).bind λo=>En cf S Γ (k o) p s) none
 | .update a _ g k,p,s=>cond (Nat.blt a s.n) ((s.t.get a).bind λo=>(alive o).bind λ_=>En cf S Γ (k ()) p ⟨s.t.set a g,s.n,s.tk⟩) none
 | .loadIfAlive a k,p,s=>cond (Nat.blt a s.n) ((s.t.get a).bind λo=>En cf S Γ (k (alive o)) p s) (En cf S Γ (k none) p s)
 | .point _ k,p,s=>En cf S Γ (k ()) p s
 | .alloc o k,p,s=>cond ((s.t.ins s.n o).get s.n).isSome (En cf S Γ (k s.n) p ⟨s.t.ins s.n o,s.n+1,s.tk⟩) none
 | .fresh k,p,s=>En cf S Γ (k s.tk) p ⟨s.t,s.n,s.tk+1⟩
 | .ask k,p,s=>En cf S Γ (k S) p s
 | .call c h _ _ k,p,s=>(cf (Γ.enter c h p) p s).bind λx=>En cf S Γ (k x.1) p x.2
 | .handled own k,p,s=>En cf S Γ (k (if own then Γ.own else Γ.handled)) p s
 | .stack k,p,s=>En cf S Γ (k ((Γ.code,p)::Γ.below)) p s
 | .thread k,p,s=>En cf S Γ (k 0) p s
 | _,_,_=>none
noncomputable def Azb(cf:Ctx→Pos→ST→Option (Result×ST))(Γ:Ctx)(x:Except Value Fin×Pos×ST):Option (Result×ST):=
 match x.1 with
 | .ok (.done v)=>some (.ok v,x.2.2)
 | .ok (.again c)=>cond c.quiet (cf (Γ.goto c) x.2.1 x.2.2) none
 | .error e=>some (.error e,x.2.2)
noncomputable def Z9(den:Code→Sem Fin)(S:Setting):Nat→Ctx→Pos→ST→Option (Result×ST)
 | 0,_,_,_=>none
 | f+1,Γ,p,s=>(En (Z9 den S f) S Γ (den Γ.code) p s).bind (Azb (Z9 den S f) Γ)
theorem We{α:Type}{b:Bool}{x:Option α}{y:α}{P:Prop}(h:cond b x none=some y)(k:b=true→x=some y→P):P:=by
 induction b
 ·exact Am h
 ·exact k rfl h
noncomputable def ST.abs(z:Shared)(s:ST):Shared:=⟨absHeap s.t s.n z.heap.life,z.gens,z.drawn,s.tk,z.os⟩
theorem La{a b:Nat}(h:Nat.blt a b=true):a < b:=le_of_ble_eq_true h
theorem Yk{a b:Nat}(h:Nat.blt a b=false):¬a < b:=λq=>by
 have:Nat.blt a b=true:=ble_eq_true_of_le q
 rw[this]at h;exact J3 h
def after{α:Type}(Q:α→Pos→Shared→Prop)(E:Value→Pos→Shared→Prop):Except Value α→Pos→Shared→Prop
 | .ok a=>Q a
 | .error e=>E e
section
variable {M:Model} {z:Shared} {cf:Ctx→Pos→ST→Option (Result×ST)}
def Akm(M:Model)(z:Shared)(cf:Ctx→Pos→ST→Option (Result×ST)):Prop:=
 ∀Γ p s r s',cf Γ p s=some (r,s')→∀R:Result→Shared→Prop,R r (s'.abs z)→wpCode M Γ R p (s.abs z)
theorem Wa{α:Type}(hc:Akm M z cf)(Γ:Ctx)(t:Sem α):∀(p:Pos) (s:ST) (r:Except Value α) (p':Pos) (s':ST),
  En cf ⟨M.prog,M.w.params⟩ Γ t p s=some (r,p',s')→∀(Q:α→Pos→Shared→Prop) (E:Value→Pos→Shared→Prop),after Q E r p' (s'.abs z)→Sem.wp M Γ t Q E p (s.abs z):=by
 induction t with
 | pure a=>intro p s r p' s' h Q E;exact Gc (P:=λx=>after Q E x.1 x.2.1 (x.2.2.abs z)→_) h id
 | raise e=>intro p s r p' s' h Q E;exact Gc (P:=λx=>after Q E x.1 x.2.1 (x.2.2.abs z)→_) h id
 | rule _ k ih=>intro p s r p' s' h Q E q;exact ih () _ _ _ _ _ h Q E q
 | «at» p₁ k ih=>intro p s r p' s' h Q E q;exact ih () _ _ _ _ _ h Q E q
 | point _ k ih=>intro p s r p' s' h Q E q;exact ih () _ _ _ _ _ h Q E q
 | ask k ih=>intro p s r p' s' h Q E q;exact ih _ _ _ _ _ _ h Q E q
 | handled own k ih=>intro p s r p' s' h Q E q;exact ih _ _ _ _ _ _ h Q E q
 | stack k ih=>intro p s r p' s' h Q E q;exact ih _ _ _ _ _ _ h Q E q
 | thread k ih=>intro p s r p' s' h Q E q;exact ih _ _ _ _ _ _ h Q E q
 | fresh k ih=>intro p s r p' s' h Q E q;exact ih _ _ ⟨s.t,s.n,s.tk+1⟩ _ _ _ h Q E q
 | load a pt k ih=>
  intro p s r p' s' h Q E q
  have h:cond (Nat.blt a s.n) ((s.t.get a).bind λo=>(alive o).bind λo=>En cf ⟨M.prog,M.w.params⟩ Γ (k o) p s) none=some (r,p',s'):=h
  refine We h λhb h=>Ay h λo ho h=>Ay h λo' ho' h=>?_
  exact⟨o',(abs_get (La hb) ho).trans ho',ih _ _ _ _ _ _ h Q E q⟩
 | update a pt g k ih=>
  intro p s r p' s' h Q E q
  have h:cond (Nat.blt a s.n) ((s.t.get a).bind λo=>(alive o).bind λo=>En cf ⟨M.prog,M.w.params⟩ Γ (k ()) p ⟨s.t.set a g,s.n,s.tk⟩) none=some (r,p',s'):=h
  refine We h λhb h=>Ay h λo ho h=>Ay h λo' ho' h=>?_
  refine⟨(congrArg Option.isSome ((abs_get (La hb) ho).trans ho') :),?_⟩
  have:=ih () p ⟨s.t.set a g,s.n,s.tk⟩ _ _ _ h Q E q
  exact absHeap_set ho▸this
 | alloc o k ih=>
  intro p s r p' s' h Q E q
  have h:cond ((s.t.ins s.n o).get s.n).isSome (En cf ⟨M.prog,M.w.params⟩ Γ (k s.n) p ⟨s.t.ins s.n o,s.n+1,s.tk⟩) none=some (r,p',s'):=h
  refine We h λhb h=>?_
  have:=ih s.n p ⟨s.t.ins s.n o,s.n+1,s.tk⟩ _ _ _ h Q E q
  show Sem.wp M Γ (k (absHeap s.t s.n z.heap.life).objs.size) Q E p ⟨(absHeap s.t s.n z.heap.life).push o,_,_,_,_⟩
  rw[absHeap_size,←absHeap_ins hb]
  exact this
 | loadIfAlive a k ih=>
  intro p s r p' s' h Q E q
  show Sem.wp M Γ (k ((absHeap s.t s.n z.heap.life).get? a)) Q E p (s.abs z)
  have h:cond (Nat.blt a s.n) ((s.t.get a).bind λo=>En cf ⟨M.prog,M.w.params⟩ Γ (k (alive o)) p s) (En cf ⟨M.prog,M.w.params⟩ Γ (k none) p s)=some (r,p',s'):=h
  cases hb:Nat.blt a s.n with
  | true=>
   rw[hb]at h
   refine Ay h λo ho h=>?_
   rw[abs_get (La hb) ho]
   exact ih _ _ _ _ _ _ h Q E q
  | false=>
   rw[hb]at h
   rw[abs_get_none (Yk hb)]
   exact ih _ _ _ _ _ _ h Q E q
 | call c hd g l k ih=>
  intro p s r p' s' h Q E q
  have h:(cf (Γ.enter c hd p) p s).bind (λx=>En cf ⟨M.prog,M.w.params⟩ Γ (k x.1) p x.2)=some (r,p',s'):=h
  exact bdq h λr₁ s₁ h₁ h=>hc _ _ _ _ _ h₁ _ (ih r₁ p s₁ _ _ _ h Q E q)
 | _=>intro p s r p' s' h;exact Am h
theorem Pr(M:Model)(z:Shared):∀f,Akm M z (Z9 M.den ⟨M.prog,M.w.params⟩ f)
 | 0=>λ_ _ _ _ _ h=>Am h
 | f+1=>by
  intro Γ p s r s' h R q
  rw[wpCode_iff_wp]
  refine Ay h λx hx h=>?_
  refine Wa (Pr M z f) Γ _ _ _ _ _ _ hx _ _ ?_
  obtain⟨r₁,p₁,s₁⟩:=x
  rcases r₁ with e | x
  ·exact Bi (P:=λr s'=>R r (ST.abs z s')→R (.error e) (ST.abs z s₁)) h id q
  ·rcases x with x | c
   ·exact Bi (P:=λr s'=>R r (ST.abs z s')→R (.ok x) (ST.abs z s₁)) h id q
   ·exact We h λhq h=>⟨hq,Pr M z f _ _ _ _ _ h R q⟩
end
noncomputable def ext(h:Heap)(l:List Obj):Heap:=⟨h.objs++l.toArray,h.life⟩
theorem Ae1(h:Heap):ext h []=h:=by obtain⟨o,l⟩:=h;simp[ext]
theorem Ach(h:Heap)(l:List Obj):(ext h l).objs.size=h.objs.size+l.length:=by simp[ext]
theorem Adm(h:Heap)(l:List Obj)(o:Obj):(ext h l).push o=ext h (l++[o]):=by
 dsimp only[ext,Heap.push]
 congr 1
 apply Array.ext'
 simp
noncomputable def Eg(es:List DictEntry)(n:Nat):Obj:={cls:=.type "dict",data:=.dict es.toArray n}
theorem Hf(hl:l[i]? = some (Eg es n)):(ext h l).get? (h.objs.size+i)=some (Eg es n):=by
 unfold Heap.get? ext
 have:(h.objs++l.toArray)[h.objs.size+i]? = some (Eg es n):=by
  rw[Array.getElem?_append_right (by exact le_add_right _ _)]
  simpa using hl
 simp only[this]
 rfl
theorem K5(h:Heap)(l:List Obj)(i:Nat)(f:Obj→Obj):(ext h l).update (h.objs.size+i) f=ext h (l.modify i f):=by
 dsimp only[ext,Heap.update]
 congr 1
 apply Array.ext_getElem?
 intro j
 rw[Array.getElem?_modify]
 by_cases hj:j < h.objs.size
 ·rw[Array.getElem?_append_left hj,Array.getElem?_append_left hj,if_neg (by lia)]
 ·rw[Array.getElem?_append_right (by exact not_lt.mp ‹_›),Array.getElem?_append_right (by lia)]
  by_cases e:h.objs.size+i=j
  ·subst e;simp
  ·have:i≠j - h.objs.size:=by lia
   simp[e,this]
theorem Kr{l:List Obj}{i:Nat}{es:List DictEntry}{n:Nat}(hl:l[i]? = some (Eg es n))(g:Array DictEntry→Array DictEntry)(es':List DictEntry)(hg:g es.toArray=es'.toArray):
  l.modify i (Obj.mapDictKeys g)=l.set i (Eg es' (n+1)):=by
 apply List.ext_getElem?
 intro j
 rw[List.getElem?_modify,getElem?_set]
 by_cases e:i=j
 ·subst e
  have:=(List.getElem?_eq_some_iff.mp hl).1
  rw[hl]
  simp[this,Eg,Obj.mapDictKeys,hg]
 ·simp[e]
def B3:List (Int×Str)→List DictEntry→Prop
 | [],es=>es=[]
 | (k,x)::r,es=>∃t u es',es=⟨hashInt k,.int k t,.str x u⟩::es'∧B3 r es'
theorem B3.snoc:∀{kvs:List (Int×Str)} {es:List DictEntry},B3 kvs es→∀k x t u,B3 (kvs++[(k,x)]) (es++[⟨hashInt k,.int k t,.str x u⟩])
 | [],es,h,k,x,t,u=>by subst h;exact⟨t,u,[],rfl,rfl⟩
 | (k₀,x₀)::r,es,h,k,x,t,u=>by
  obtain⟨t₀,u₀,es',rfl,h⟩:=h
  exact⟨t₀,u₀,_,rfl,h.snoc k x t u⟩
theorem B3.keys:∀{kvs:List (Int×Str)} {es:List DictEntry},B3 kvs es→IntKeys es.toArray
 | [],es,h=>by subst h;intro e he;simp at he
 | (k₀,x₀)::r,es,h=>by
  obtain⟨t₀,u₀,es',rfl,h⟩:=h
  intro e he
  simp only[mem_toArray,mem_cons]at he
  rcases he with rfl | he
  ·exact⟨k₀,t₀,rfl,rfl⟩
  ·exact h.keys e (by simpa using he)
theorem B3.length:∀{kvs:List (Int×Str)} {es:List DictEntry},B3 kvs es→es.length=kvs.length
 | [],es,h=>by subst h;rfl
 | (k₀,x₀)::r,es,h=>by obtain⟨t₀,u₀,es',rfl,h⟩:=h;simp[h.length]
theorem B3.new:∀{kvs:List (Int×Str)} {es:List DictEntry},B3 kvs es→∀{k:Int},k∉kvs.map (·.1)→∀e∈es,Value.isInt k e.key=false
 | [],es,h,k,_,e,he=>by subst h;cases he
 | (k₀,x₀)::r,es,h,k,hk,e,he=>by
  obtain⟨t₀,u₀,es',rfl,h⟩:=h
  simp only[map_cons,mem_cons,not_or]at hk
  rcases mem_cons.mp he with rfl | he
  ·simp[Value.isInt,Ne.symm hk.1]
  ·exact h.new hk.2 e he
section
variable {prog:Program} {w:World} {A:Around} {E:Value→Shared→Prop}
theorem Oi{es:List DictEntry}{k:Int}(h:∀e∈es,Value.isInt k e.key=false):(es.toArray.findIdx? λe=>Value.isInt k e.key)=none:=by
 rw[findIdx?_eq_none_iff]
 intro e he
 exact h e (by simpa using he)
theorem Jv{l:List Obj}{i:Nat}{es:List DictEntry}{n:Nat}{k:Int}{t:Tok}{v:Value}{Q:Unit→Shared→Prop}(hs:s.heap=ext h l)(hl:l[i]? = some (Eg es n))(hk:IntKeys es.toArray)
  (hn:∀e∈es,Value.isInt k e.key=false) (hz:es.length≤sizeLine)
  (q:Q () {s with heap:=ext h (l.set i (Eg (es++[⟨hashInt k,.int k t,v⟩]) (n+1))),toks:=s.toks+1}):
  wpAny (model prog w) A (dictSet (h.objs.size+i) (.int k t) v) Q E s:=by
 have ho:s.heap.get? (h.objs.size+i)=some (Eg es n):=hs▸Hf hl
 delta dictSet
 try with_reducible refine wpAny_holding ?_
 refine wpAny_bind (wpAny_pyHash_int ?_)
 delta dictSetHashed
 try with_reducible refine wpAny_holding ?_
 refine wpAny_bind (wpAny_dictFind_int (s:={s with toks:=s.toks+1}) ho rfl hk ?_)
 rw[Oi hn]
 refine wpAny_bind (wpAny_rule (wpAny_updateDictKeys (hz:=by trivial) (s:={s with toks:=s.toks+1}) ho rfl ?_))
 have:s.heap.update (h.objs.size+i) (Obj.mapDictKeys λx=>x.push ⟨hashInt k,.int k t,v⟩)=ext h (l.set i (Eg (es++[⟨hashInt k,.int k t,v⟩]) (n+1))):=by
  rw[hs,K5,Kr hl _ (es++[⟨hashInt k,.int k t,v⟩]) (by simp)]
 rw[←this]at q
 exact q
theorem Rk{l:List Obj}{i:Nat}{es:List DictEntry}{n:Nat}{k:Int}{t:Tok}{v:Value}{Q:Unit→Shared→Prop}(hs:s.heap=ext h l)(hl:l[i]? = some (Eg es n))(hk:IntKeys es.toArray)
  (hn:∀e∈es,Value.isInt k e.key=false) (hz:es.length≤sizeLine)
  (q:Q () {s with heap:=ext h (l.set i (Eg (es++[⟨hashInt k,.int k t,v⟩]) (n+1)))}):
  wpAny (model prog w) A (dictPut (h.objs.size+i) (hashInt k) (.int k t) v) Q E s:=by
 have ho:s.heap.get? (h.objs.size+i)=some (Eg es n):=hs▸Hf hl
 refine wpAny_bind (wpAny_dictFind_int ho rfl hk ?_)
 rw[Oi hn]
 refine wpAny_updateDictKeys (hz:=by trivial) ho rfl ?_
 have:s.heap.update (h.objs.size+i) (Obj.mapDictKeys λx=>x.push ⟨hashInt k,.int k t,v⟩)=ext h (l.set i (Eg (es++[⟨hashInt k,.int k t,v⟩]) (n+1))):=by
  rw[hs,K5,Kr hl _ (es++[⟨hashInt k,.int k t,v⟩]) (by simp)]
 rw[←this]at q
 exact q
def Axu(prog:Program)(w:World)(k:Int)(x:Str)(p:Sem Value×Sem Value):Prop:=
 (∀A E s Q,Q (.int k s.toks) {s with toks:=s.toks+1}→wpAny (model prog w) A p.1 Q E s)∧(∀A E s Q,Q (.str x s.toks) {s with toks:=s.toks+1}→wpAny (model prog w) A p.2 Q E s)
def J0(prog:Program)(w:World):List (Int×Str)→List (Sem Value×Sem Value)→Prop
 | [],ps=>ps=[]
 | (k,x)::r,ps=>∃p ps',ps=p::ps'∧Axu prog w k x p∧J0 prog w r ps'
theorem J0.length:∀{kvs:List (Int×Str)} {ps:List (Sem Value×Sem Value)},J0 prog w kvs ps→ps.length=kvs.length
 | [],_,h=>by subst h;rfl
 | (k,x)::r,_,h=>by obtain⟨p,ps',rfl,_,h⟩:=h;simp[h.length]
theorem Ga(l:List α)(i:Nat)(x y:α):(l.set i x).set i y=l.set i y:=by simp
theorem Ek{α:Type}{l:List α}{i:Nat}{x y:α}(h:l[i]? = some x):(l.set i y)[i]? = some y:=by
 have:=(List.getElem?_eq_some_iff.mp h).1
 simp[this]
theorem Mg{α:Type}{l:List α}{i:Nat}{x:α}(h:l[i]? = some x):l.set i x=l:=by
 obtain⟨h1,h2⟩:=List.getElem?_eq_some_iff.mp h
 subst h2
 simp
inductive Acb{α β:Type}(R:α→β→Prop):List α→List β→Prop
 | nil:Acb R [] []
 | cons {a:α} {b:β} {l:List α} {m:List β}:R a b→Acb R l m→Acb R (a::l) (b::m)
theorem R2{h:Heap}{i:Nat}(f:Sem Value×Sem Value→PUnit→Sem (ForInStep PUnit))
  (hf:∀p u,f p u=(do let kv ←p.1;let vv ←holding [kv] p.2;holding [kv,vv] (dictSet (h.objs.size+i) kv vv);pure (ForInStep.yield PUnit.unit))):
  ∀(kvs kvs₀:List (Int×Str)) (ps:List (Sem Value×Sem Value)) (es:List DictEntry) (n:Nat) (l:List Obj) (s:Shared) (Q:PUnit→Shared→Prop),J0 prog w kvs ps→B3 kvs₀ es→((kvs₀++kvs).map (·.1)).Nodup→kvs₀.length+kvs.length≤sizeLine→
   s.heap=ext h l→l[i]? = some (Eg es n)→
   (∀es' n',B3 (kvs₀++kvs) es'→Q PUnit.unit {s with heap:=ext h (l.set i (Eg es' n')),toks:=s.toks+3*kvs.length})→
   wpAny (model prog w) A (forIn ps PUnit.unit f) Q E s
 | [],kvs₀,ps,es,n,l,s,Q,hp,he,hnd,hz,hs,hl,q=>by
  subst hp
  rw[forIn_nil]
  have e:l.set i (Eg es n)=l:=Mg hl
  have:=q es n (by simpa using he)
  rw[e,←hs]at this
  exact wpAny_pure (by simpa using this)
 | (k,x)::r,kvs₀,ps,es,n,l,s,Q,hp,he,hnd,hz,hs,hl,q=>by
  obtain⟨p,ps',rfl,hp1,hp⟩:=hp
  rw[forIn_cons,hf]
  have hnew:k∉kvs₀.map (·.1):=by
   intro hm
   simp only[map_append,map_cons,nodup_append]at hnd
   exact hnd.2.2 k hm k (by exact mem_cons_self) rfl
  dsimp only[length_cons]at hz
  refine wpAny_bind (wpAny_bind (hp1.1 _ _ _ _ (wpAny_bind (wpAny_holding (hp1.2 _ _ _ _ (wpAny_bind (wpAny_holding ?_)))))))
  refine Jv (s:={s with toks:=s.toks+1+1}) hs hl he.keys (he.new hnew) (by rw[he.length];exact le_trans (le_add_right _ _) ‹_›) (wpAny_pure ?_)
  refine R2 f hf r (kvs₀++[(k,x)]) ps' _ (n+1) _ _ Q hp (he.snoc k x _ _) (by simpa using hnd) (by simp;lia) rfl (Ek hl) λes' n' he'=>?_
  have:=q es' n' (by simpa using he')
  rw[Ga]
  have e:s.toks+1+1+1+3*r.length=s.toks+3*(r.length+1):=by lia
  rw[e]
  exact this
theorem Hu:∀(kvs:List (Int×Str)) (ps:List (Sem Value×Sem Value)) (s:Shared) (Q:List (Value×Value)→Shared→Prop),J0 prog w kvs ps→
  (∀vs,Acb (fun(kv:Int×Str) (v:Value×Value)=>(∃t,v.1 = .int kv.1 t)∧∃u,v.2 = .str kv.2 u) kvs vs→Q vs {s with toks:=s.toks+2*kvs.length})→wpAny (model prog w) A (evalPairs ps) Q E s
 | [],ps,s,Q,hp,q=>by subst hp;exact evalPairs_nil (by simpa using q [] .nil)
 | (k,x)::r,ps,s,Q,hp,q=>by
  obtain⟨p,ps',rfl,hp1,hp⟩:=hp
  refine evalPairs_cons (hp1.1 _ _ _ _ (hp1.2 _ _ _ _ (Hu r ps' _ _ hp λvs hv=>?_)))
  have:=q ((Value.int k s.toks,Value.str x (s.toks+1))::vs) (.cons ⟨⟨s.toks,rfl⟩,s.toks+1,rfl⟩ hv)
  have e:s.toks+1+1+2*r.length=s.toks+2*(r.length+1):=by lia
  rw[e]
  exact this
set_option tactic.hygienic true in
theorem Nj{h:Heap}{i:Nat}:∀(kvs kvs₀:List (Int×Str)) (vs:List (Value×Value)) (es:List DictEntry) (n:Nat) (l:List Obj) (s:Shared) (Q:PUnit→Shared→Prop),
   Acb (fun(kv:Int×Str) (v:Value×Value)=>(∃t,v.1 = .int kv.1 t)∧∃u,v.2 = .str kv.2 u) kvs vs→B3 kvs₀ es→((kvs₀++kvs).map (·.1)).Nodup→kvs₀.length+kvs.length≤sizeLine→
   s.heap=ext h l→l[i]? = some (Eg es n)→
   (∀es' n',B3 (kvs₀++kvs) es'→Q PUnit.unit {s with heap:=ext h (l.set i (Eg es' n')),toks:=s.toks+kvs.length})→
   wpAny (model prog w) A (forIn vs PUnit.unit fun(x:Value×Value) (_:PUnit)=>(do dictSet (h.objs.size+i) x.1 x.2;pure (ForInStep.yield PUnit.unit):Sem (ForInStep PUnit))) Q E s
 | [],kvs₀,ps,es,n,l,s,Q,hp,he,hnd,hz,hs,hl,q=>by
  cases hp
  rw[forIn_nil]
  have e:l.set i (Eg es n)=l:=Mg hl
  have:=q es n (by simpa using he)
  rw[e,←hs]at this
  exact wpAny_pure (by simpa using this)
 | (k,x)::r,kvs₀,_,es,n,l,s,Q,hp,he,hnd,hz,hs,hl,q=>by
  cases hp with
  | cons hp1 hp=>
   rename_i v vs
   obtain⟨v1,v2⟩:=v
   refine xae hp1 λw1 u e2=>?_
   clear hp1
   obtain⟨t,e1⟩:=w1
   simp only at e1 e2
   subst e1;subst e2
   rw[forIn_cons]
   have hnew:k∉kvs₀.map (·.1):=by
    intro hm
    simp only[map_append,map_cons,nodup_append]at hnd
    exact hnd.2.2 k hm k (by exact mem_cons_self) rfl
   dsimp only[length_cons]at hz
   refine wpAny_bind (wpAny_bind ?_)
   refine Jv hs hl he.keys (he.new hnew) (by rw[he.length];lia) (wpAny_pure ?_)
   refine Nj r (kvs₀++[(k,x)]) vs _ (n+1) _ _ Q hp (he.snoc k x _ _) (by simpa using hnd) (by simp;lia) rfl (Ek hl) λes' n' he'=>?_
   have:=q es' n' (by simpa using he')
   rw[Ga]
   have e:s.toks+1+r.length=s.toks+(r.length+1):=by exact add_right_comm _ _ _
   rw[e]
   exact this
theorem Agl:({cls:=.type "dict",data:=.dict #[]}:Obj)=Eg [] 0:=rfl
theorem Jn(hs:s.heap=ext h l)(hp:J0 prog w kvs ps)(hnd:(kvs.map (·.1)).Nodup)(hz:kvs.length≤sizeLine)
  (q:∀es n,B3 kvs es→Q (h.objs.size+l.length) {s with heap:=ext h (l++[Eg es n]),toks:=s.toks+3*kvs.length}):wpAny (model prog w) A (subDict ps) Q E s:=by
 refine wpAny_bind (wpAny_alloc ?_)
 rw[Agl,hs,Adm,Ach]
 refine wpAny_bind (wpAny_holding ?_)
 have e0:(l++[Eg [] 0])[l.length]? = some (Eg [] 0):=by simp
 have e1:∀o,(l++[Eg [] 0]).set l.length o=l++[o]:=λo=>by simp
 by_cases hlen:ps.length≤15
 ·rw[if_pos hlen]
  refine wpAny_bind (Hu kvs ps _ _ hp λvs hv=>wpAny_holding (wpAny_bind ?_))
  refine Nj (h:=h) (i:=l.length) kvs [] vs [] 0 _ _ _ hv rfl (by trivial) (by simpa using hz) rfl e0 λes n he=>wpAny_pure (wpAny_pure ?_)
  rw[e1]
  have:=q es n (by simpa using he)
  have e:s.toks+2*kvs.length+kvs.length=s.toks+3*kvs.length:=by lia
  rw[e]
  exact this
 ·rw[if_neg hlen]
  refine wpAny_bind (wpAny_rule (wpAny_bind ?_))
  refine R2 (h:=h) (i:=l.length) _ (λp u=>rfl) kvs [] ps [] 0 _ _ _ hp rfl (by trivial) (by simpa using hz) rfl e0 λes n he=>wpAny_pure (wpAny_pure ?_)
  rw[e1]
  exact q es n (by simpa using he)
end
section
variable {prog:Program} {w:World} {A:Around} {E:Value→Shared→Prop}
theorem B3.get:∀{kvs:List (Int×Str)} {es:List DictEntry},B3 kvs es→∀{dn td:List (Int×Str)} {k:Int} {x:Str},kvs=dn++(k,x)::td→∃t u,es[dn.length]? = some ⟨hashInt k,.int k t,.str x u⟩
 | [],es,h,dn,td,k,x,e=>by simp at e
 | (k₀,x₀)::r,es,h,dn,td,k,x,e=>by
  obtain⟨t₀,u₀,es',rfl,h⟩:=h
  induction dn using List.casesOn with
  | nil=>obtain⟨⟨rfl,rfl⟩,rfl⟩:=e;exact⟨t₀,u₀,rfl⟩
  | cons y dn=>
   simp only[cons_append,List.cons.injEq]at e
   obtain⟨t,u,q⟩:=h.get e.2
   exact⟨t,u,by trivial⟩
theorem X3(hs:s.heap=ext h l)(hi:l[i]? = some (Eg es₀ n₀))(hj:l[j]? = some (Eg es n))(hij:i≠j)(hne:kvs₀≠[])
  (he₀:B3 kvs₀ es₀) (he:B3 kvs es) (hnd:((kvs₀++kvs).map (·.1)).Nodup) (hz:kvs₀.length+kvs.length≤sizeLine) (hsm:h.objs.size+j≠sysModules)
  (q:∀es' n',B3 (kvs₀++kvs) es'→Q () {s with heap:=ext h (l.set i (Eg es' n'))}):wpAny (model prog w) A (mergeMapping (h.objs.size+i) (.ref (h.objs.size+j)) false) Q E s:=by
 have hoj:s.heap.get? (h.objs.size+j)=some (Eg es n):=hs▸Hf hj
 have hoi:s.heap.get? (h.objs.size+i)=some (Eg es₀ n₀):=hs▸Hf hi
 have hT:s.TypeIs (.ref (h.objs.size+j)) "dict" := ⟨_,hoj,rfl⟩
 refine wpAny_bind (wpAny_isInstance hT isSubtype_dict_dict ?_)
 refine wpAny_bind (wpAny_specialOf hT F.slot_dict_iter.lookup ?_)
 simp only[beq_self_eq_true]
 refine wpAny_bind (wpAny_pure ?_)
 simp only[]
 rw[if_neg (by simp[hsm])]
 refine wpAny_bind (wpAny_dictEntries hoi rfl ?_)
 have hem:es₀.toArray.isEmpty=false:=by
  have:=he₀.length
  induction es₀ using List.casesOn with
  | nil=>exact absurd (length_eq_zero_iff.mp this.symm) hne
  | cons=>simp
 rw[hem]
 refine wpAny_bind (wpAny_dictEntries hoj rfl ?_)
 refine wpAny_bind (wpAny_dictEpoch hoj rfl ?_)
 refine wpAny_bind (wpAny_forIn_list _ (λrest _ s'=>∃dn td es' n',kvs=dn++td∧rest=List.range' dn.length td.length∧B3 (kvs₀++dn) es'∧s'={s with heap:=ext h (l.set i (Eg es' n'))}) _ ?_ ?_ _ _ ?_)
 ·rintro x rest b s' ⟨dn,td,es',n',hk,hr,hE,rfl⟩
  induction td using List.casesOn with
  | nil=>simp at hr
  | cons y td=>
   obtain⟨k,v⟩:=y
   simp only[length_cons,range'_succ,List.cons.injEq]at hr
   obtain⟨rfl,hr⟩:=hr
   have hj':(l.set i (Eg es' n'))[j]? = some (Eg es n):=by rw[getElem?_set_ne hij];exact hj
   have hoj':(ext h (l.set i (Eg es' n'))).get? (h.objs.size+j)=some (Eg es n):=Hf hj'
   obtain⟨t,u,hg⟩:=he.get hk
   refine wpAny_bind (wpAny_dictEntries (s:={s with heap:=_}) hoj' rfl ?_)
   simp only[getElem?_toArray,hg]
   have hnew:k∉(kvs₀++dn).map (·.1):=by
    intro hm
    rw[hk,←append_assoc]at hnd
    simp only[map_append (l₁:=kvs₀++dn),map_cons,nodup_append]at hnd
    exact hnd.2.2 k hm k (by exact mem_cons_self) rfl
   have hlen:kvs.length=dn.length+(td.length+1):=by rw[hk];simp
   refine wpAny_bind (wpAny_holding ?_)
   refine Rk (s:={s with heap:=_}) rfl (Ek hi) hE.keys (hE.new hnew) (by rw[hE.length];simp;lia) ?_
   rw[Ga]
   have hj'':(l.set i (Eg (es'++[⟨hashInt k,.int k t,.str v u⟩]) (n'+1)))[j]? = some (Eg es n):=by rw[getElem?_set_ne hij];exact hj
   refine wpAny_bind (wpAny_dictEpoch (s:={s with heap:=_}) (Hf hj'') rfl ?_)
   simp only[bne_self_eq_false,Bool.false_eq_true,if_false]
   refine wpAny_pure ⟨dn++[(k,v)],td,_,_,by rw[hk];simp,by rw[hr];simp,?_,rfl⟩
   rw[←append_assoc]
   exact hE.snoc k v t u
 ·rintro b s' ⟨dn,td,es',n',hk,hr,hE,rfl⟩
  have:td=[]:=by
   induction td using List.casesOn with
   | nil=>rfl
   | cons=>simp at hr
  subst this
  rw[append_nil]at hk
  subst hk
  exact wpAny_pure (q _ _ hE)
 ·refine⟨[],kvs,es₀,n₀,rfl,?_,by simpa using he₀,?_⟩
  ·rw[range_eq_range',size_toArray,he.length];rfl
  ·rw[Mg hi,←hs]
end
section
variable {prog:Program} {w:World} {A:Around} {E:Value→Shared→Prop}
noncomputable def Aca(run:List (Sem Value×Sem Value))(main:Option Addr):Sem (Option Addr):=do
  if run.isEmpty then return main
  match main with
  | none=>return some (←subDict run)
  | some d=>
   let sub ←holding [.ref d] (subDict run)
   (holding [.ref d,.ref sub] (mergeMapping d (.ref sub) false)).onRaise λx=>do let _ ←holding [.ref d,x] (runValue (.builtin "proto.let_go" {}))
   return some d
def Ae6(h:Heap)(s:Shared)(dn:List (Int×Str))(main:Option Addr)(s':Shared):Prop:=
 ∃L:List Obj,s'={s with heap:=ext h L,toks:=s.toks+3*dn.length}∧((main=none∧dn=[]∧L=[])∨(main=some (h.objs.size+0)∧dn≠[]∧∃es n,L[0]? = some (Eg es n)∧B3 dn es))∧L.length=(dn.length+16) / 17
theorem Of{dn rn:List (Int×Str)}{run:List (Sem Value×Sem Value)}{Q:Option Addr→Shared→Prop}(hd:Ae6 h s dn main s')(hp:J0 prog w rn run)(hnd:((dn++rn).map (·.1)).Nodup)
  (hz:dn.length+rn.length≤sizeLine) (h1:sysModules < h.objs.size) (h17:dn.length % 17=0) (hr0:rn≠[]) (hr:rn.length≤17) (q:∀s'',Ae6 h s (dn++rn) (some (h.objs.size+0)) s''→Q (some (h.objs.size+0)) s''):
  wpAny (model prog w) A (Aca run main) Q E s':=by
 refine D7 hd λL z hm hL=>?_
 clear hd
 subst z
 have hre:run.isEmpty=false:=by
  have:=hp.length
  induction run using List.casesOn with
  | nil=>exact absurd (length_eq_zero_iff.mp this.symm) hr0
  | cons=>rfl
 have hrl:0 < rn.length:=length_pos_iff.mpr hr0
 delta Aca
 simp only[hre,Bool.false_eq_true,if_false]
 rcases hm with⟨rfl,rfl,rfl⟩ | ⟨rfl,hdn,es₀,n₀,hi,he₀⟩
 ·simp only[]
  refine wpAny_bind (Jn (h:=h) (l:=[]) (s:={s with heap:=_,toks:=_}) rfl hp (by simpa using hnd) (by exact le_trans (le_add_left _ _) ‹_›) λes n he=>wpAny_pure ?_)
  refine q _ ⟨[Eg es n],by simp,.inr ⟨rfl,by trivial,es,n,rfl,by trivial⟩,?_⟩
  simp
  lia
 ·skip
  have hpos:0 < L.length:=(List.getElem?_eq_some_iff.mp hi).1
  refine wpAny_bind (wpAny_holding (Jn (h:=h) (l:=L) (s:={s with heap:=_,toks:=_}) rfl hp (List.Nodup.sublist (by simp) hnd) (by exact le_trans (le_add_left _ _) ‹_›) λes n he=>?_))
  have hi':(L++[Eg es n])[0]? = some (Eg es₀ n₀):=by rw[List.getElem?_append_left hpos];exact hi
  refine wpAny_bind (wpAny_onRaise (wpAny_holding (X3 (h:=h) (l:=L++[Eg es n]) (i:=0) (j:=L.length) (es:=es) (n:=n) (s:={s with heap:=_,toks:=_}) rfl hi' (by simp) (by exact ne_of_lt ‹_›) hdn he₀ he hnd hz (ne_of_gt (lt_of_lt_of_le h1 (le_add_right _ _))) λes' n' he'=>wpAny_pure ?_)))
  refine q _ ⟨(L++[Eg es n]).set 0 (Eg es' n'),?_,.inr ⟨rfl,by simp[hr0],es',n',Ek hi',he'⟩,?_⟩
  ·simp only[length_append,Shared.mk.injEq,true_and,and_true]
   lia
  ·simp only[length_set,length_append,length_cons,length_nil,hL]
   lia
theorem Qz{kvs:List (Int×Str)}{ps:List (Sem Value×Sem Value)}{Q:Value→Shared→Prop}(hs:s.heap=h)(hp:J0 prog w kvs ps)(hnd:(kvs.map (·.1)).Nodup)
  (hz:kvs.length≤sizeLine) (h1:sysModules < h.objs.size) (hne:kvs≠[]) (q:∀L es n,L.length=(kvs.length+16) / 17→L[0]? = some (Eg es n)→B3 kvs es→Q (.ref h.objs.size) {s with heap:=ext h L,toks:=s.toks+3*kvs.length}):
  wpAny (model prog w) A (dictDisplay (ps.map λp=>(some p.1,p.2))) Q E s:=by
 refine wpAny_bind (wpAny_forIn_list _ (λrest b s'=>∃dn rn td pt,kvs=dn++(rn++td)∧rest=pt.map (λp=>(some p.1,p.2))∧J0 prog w td pt∧J0 prog w rn b.2∧rn.length < 17∧dn.length % 17=0∧Ae6 h s dn b.1 s') _ ?_ ?_ _ _ ?_)
 ·intro x rest w1 s' w2
  obtain⟨main,run⟩:=w1
  refine Ju w2 λdn rn td pt hk hr ht hrn hlt h17 hd=>?_
  clear w2
  induction td using List.casesOn with
  | nil=>subst ht;simp at hr
  | cons y td=>
   obtain⟨k,v⟩:=y
   obtain⟨p,pt',rfl,hp1,ht⟩:=ht
   simp only[map_cons,List.cons.injEq]at hr
   obtain⟨rfl,hr⟩:=hr
   have hrn':J0 prog w (rn++[(k,v)]) (run++[(p.1,p.2)]):=by
    clear hk hlt hd hr
    induction rn generalizing run with
    | nil=>subst hrn;exact⟨p,[],rfl,hp1,rfl⟩
    | cons z rn ih=>
     obtain⟨k',x'⟩:=z
     obtain⟨p',ps',rfl,hp',hrn⟩:=hrn
     exact⟨p',_,rfl,hp',ih _ hrn⟩
   have hlen:=hrn'.length
   simp only[length_append,length_cons,length_nil]at hlen
   simp only[]
   by_cases hc:rn.length+1=17
   ·have hb:((run++[(p.1,p.2)]).length==17)=true:=by simp;lia
    simp only[hb,if_true]
    have hk':kvs=(dn++(rn++[(k,v)]))++td:=by rw[hk];simp
    refine wpAny_bind (Of (run:=run++[(p.1,p.2)]) hd hrn' (by rw[hk']at hnd;simp only[map_append (l₁:=dn++_)]at hnd;exact(nodup_append.mp hnd).1) (by rw[hk']at hz;simp at hz⊢;lia) h1 h17 (by simp) (by simp;exact le_of_succ_le_succ ‹_›) λs'' hd'=>wpAny_pure ?_)
    exact⟨dn++(rn++[(k,v)]),[],td,pt',by rw[hk'];simp,hr,ht,rfl,by decide,by simp;lia,hd'⟩
   ·have hb:((run++[(p.1,p.2)]).length==17)=false:=by simp;lia
    simp only[hb,Bool.false_eq_true,if_false]
    exact wpAny_pure ⟨dn,rn++[(k,v)],td,pt',by rw[hk];simp,hr,ht,hrn',by simp;exact lt_of_le_of_ne ‹_› ‹_›,h17,hd⟩
 ·intro w1 s' w2
  obtain⟨main,run⟩:=w1
  refine Ju w2 λdn rn td pt hk hr ht hrn hlt h17 hd=>?_
  clear w2
  have ht0:td=[]:=by
   induction td using List.casesOn with
   | nil=>rfl
   | cons y td=>
    obtain⟨k,v⟩:=y
    refine Cc ht λp pt' z1 _ _=>?_
    clear ht
    subst z1
    simp at hr
  subst ht0
  rw[append_nil]at hk
  have fin:∀s'',Ae6 h s kvs (some (h.objs.size+0)) s''→Q (.ref h.objs.size) s'':=by
   intro s'' w1
   refine D7 w1 λL z2 hm hL=>?_
   clear w1
   subst z2
   rcases hm with⟨h0,_⟩ | ⟨_,_,es,n,hi,he⟩
   ·exact nso h0
   ·exact q L es n hL hi he
  by_cases hr0:rn=[]
  ·subst hr0
   subst hrn
   rw[append_nil]at hk
   subst hk
   refine D7 (id hd) λL e hm hL=>?_
   rcases hm with⟨_,h0,_⟩ | ⟨rfl,_⟩
   ·exact absurd h0 hne
   ·exact wpAny_bind (wpAny_pure (wpAny_pure (fin _ hd)))
  ·subst hk
   refine wpAny_bind (Of (run:=run) hd hrn hnd (by simpa using hz) h1 h17 hr0 (by exact le_of_lt ‹_›) λs'' hd'=>wpAny_pure (fin _ hd'))
 ·refine⟨[],[],kvs,ps,rfl,rfl,hp,rfl,by decide,rfl,[],?_,.inl ⟨rfl,rfl,rfl⟩,rfl⟩
  rw[Ae1,←hs]
  rfl
end
noncomputable def vS(l:List Nat)(t:Nat):Value:=.str ⟨⟨l⟩⟩ t
noncomputable def ke(P:Params)(l:List Nat)(t:Nat)(v:Value):DictEntry:=⟨PyData.keyHash P ⟨⟨l⟩⟩,.str ⟨⟨l⟩⟩ t,v⟩
noncomputable abbrev PO:=Params→Obj
noncomputable def fO(t:Value)(n q:List Nat)(s:Stmt)(g:Nat)(a b c m d e:Value)(u:Nat):Obj:=⟨t,none,(.func {name:=⟨⟨n⟩⟩,qualname:=⟨⟨q⟩⟩,params:=fnP s,body:=.stmts (Ft s),scope:=Ke s,globals:=g,closure:=[],defaults:=a,kwdefaults:=b,doc:=c,pyModule:=m,annotations:=none,code:=d,closureTuple:=e,builtins:=u}),⟨[]⟩⟩
noncomputable def fQ(n:List Nat)(s:Stmt):Obj:=fO .none n n s 0 .none .none .none .none .none .none 0
noncomputable def cO(l:List Value):Obj:=⟨(.type "code"),none,(.fields ⟨l⟩),⟨[]⟩⟩
noncomputable def tO(l:List Value):Obj:=⟨(.type "tuple"),none,(.seq ⟨l⟩ 0),⟨[]⟩⟩
noncomputable def qO(l:List Value):Obj:=⟨.none,none,(.seq ⟨l⟩ 0),⟨[]⟩⟩
noncomputable def nO(l:List Value):Obj:=⟨.none,none,(.fields ⟨l⟩),⟨[]⟩⟩
noncomputable def dO(l:List DictEntry)(n:Nat):Obj:=⟨(.type "dict"),none,(.dict ⟨l⟩ n),⟨[]⟩⟩
noncomputable def i0(n:Int):Value:=.int n 0
noncomputable def ki(P:Params)(l:List Nat)(t:Nat)(a:Int)(b:Nat):DictEntry:=ke P l t (.int a b)
noncomputable def lf(o:Obj):BT:=.node o .nil .nil
noncomputable def z0:List Nat:=[47,99,108,97,105,109,47,99,117,116,46,112,121]
noncomputable def z1:List Nat:=[99,112,121,51,49,51,46,119,115,103,105,114,101,102,46,104,101,97,100,101,114,115]
noncomputable def z2:List Nat:=[108,97,119,95,119,102,48,49,50,49,95,48,49]
noncomputable def z3:List Nat:=[98,105,115,101,99,116,95,114,105,103,104,116]
noncomputable def z4:List Nat:=[105,110,115,111,114,116,95,108,101,102,116]
noncomputable def z5:List Nat:=[98,105,115,101,99,116,95,108,101,102,116]
noncomputable def z6:List Nat:=[105,110,95,116,97,98,108,101,95,98,49]
noncomputable def z7:List Nat:=[95,99,111,110,118,101,114,116,95,115,116,114,105,110,103,95,116,121,112,101]
noncomputable def z8:List Nat:=[95,95,112,97,99,107,97,103,101,95,95]
noncomputable def z9:List Nat:=[95,95,108,111,97,100,101,114,95,95]
noncomputable def z10:List Nat:=[109,97,112,95,116,97,98,108,101,95,98,51]
noncomputable def z11:List Nat:=[95,108,97,119,95,111,112,112,111,115,105,116,101]
noncomputable def z12:List Nat:=[95,108,97,119,95,112,114,101,112,97,114,101,100]
noncomputable def z13:List Nat:=[95,95,100,111,99,95,95]
noncomputable def z14:List Nat:=[95,95,115,116,97,116,105,99,95,97,116,116,114,105,98,117,116,101,115,95,95]
noncomputable def z15:List Nat:=[95,102,111,114,109,97,116,112,97,114,97,109]
noncomputable def z16:List Nat:=[95,95,97,110,110,111,116,97,116,105,111,110,115,95,95]
noncomputable def z17:List Nat:=[72,101,97,100,101,114,115,46,95,99,111,110,118,101,114,116,95,115,116,114,105,110,103,95,116,121,112,101]
noncomputable def z18:List Nat:=[95,108,97,119,95,112,105,101,99,101,115]
noncomputable def z19:List Nat:=[95,95,119,101,97,107,114,101,102,95,95]
noncomputable def z20:List Nat:=[73,83,78,79,78,84,69,82,77,73,78,65,76]
noncomputable def z21:List Nat:=[95,108,97,119,95,115,101,97,114,99,104]
noncomputable def z22:List Nat:=[95,95,110,97,109,101,95,95]
noncomputable def z23:List Nat:=[95,95,115,112,101,99,95,95]
noncomputable def z24:List Nat:=[99,112,121,51,49,51,46,115,116,114,105,110,103,112,114,101,112]
noncomputable def z25:List Nat:=[95,108,97,119,95,116,114,117,116,104]
noncomputable def z26:List Nat:=[95,108,97,119,95,107,101,101,112,115]
noncomputable def z27:List Nat:=[95,108,97,119,95,114,117,108,101,115]
noncomputable def z28:List Nat:=[95,108,97,119,95,115,116,101,112,115]
noncomputable def z29:List Nat:=[95,108,97,119,95,114,105,103,104,116]
noncomputable def z30:List Nat:=[72,101,97,100,101,114,115]
noncomputable def Zl:List Nat:=[115,101,108,102]
noncomputable def z32:List Nat:=[95,108,97,119,95,100,114,97,119,110]
noncomputable def z33:List Nat:=[95,108,97,119,95,110,97,109,101,115]
noncomputable def z34:List Nat:=[95,95,98,117,105,108,116,105,110,115,95,95]
noncomputable def z35:List Nat:=[32,83,82,69,32,50,46,50,46,50,32,67,111,112,121,114,105,103,104,116,32,40,99,41,32,49,57,57,55,45,50,48,48,50,32,98,121,32,83,101,99,114,101,116,32,76,97,98,115,32,65,66,32]
noncomputable def z36:List Nat:=[95,95,99,111,110,116,97,105,110,115,95,95]
noncomputable def z37:List Nat:=[95,95,102,105,114,115,116,108,105,110,101,110,111,95,95]
noncomputable def z38:List Nat:=[95,95,115,101,116,105,116,101,109,95,95]
noncomputable def z39:List Nat:=[95,95,100,101,108,105,116,101,109,95,95]
noncomputable def z40:List Nat:=[95,95,103,101,116,105,116,101,109,95,95]
noncomputable def z41:List Nat:=[115,101,116,100,101,102,97,117,108,116]
noncomputable def z42:List Nat:=[73,83,84,69,82,77,73,78,65,76]
noncomputable def z43:List Nat:=[95,119,97,108,108]
noncomputable def z44:List Nat:=[97,100,100,95,104,101,97,100,101,114]
noncomputable def z45:List Nat:=[95,95,105,110,105,116,95,95]
noncomputable def z46:List Nat:=[95,95,114,101,112,114,95,95]
noncomputable def z47:List Nat:=[95,115,114,101]
noncomputable def z48:List Nat:=[72,101,97,100,101,114,115,46,95,95,99,111,110,116,97,105,110,115,95,95]
noncomputable def z49:List Nat:=[95,95,100,105,99,116,95,95]
noncomputable def z50:List Nat:=[72,101,97,100,101,114,115,46,95,95,115,101,116,105,116,101,109,95,95]
noncomputable def z51:List Nat:=[72,101,97,100,101,114,115,46,95,95,100,101,108,105,116,101,109,95,95]
noncomputable def z52:List Nat:=[72,101,97,100,101,114,115,46,95,95,103,101,116,105,116,101,109,95,95]
noncomputable def z53:List Nat:=[72,101,97,100,101,114,115,46,115,101,116,100,101,102,97,117,108,116]
noncomputable def z54:List Nat:=[95,95,99,97,99,104,101,100,95,95]
noncomputable def z55:List Nat:=[72,101,97,100,101,114,115,46,97,100,100,95,104,101,97,100,101,114]
noncomputable def z56:List Nat:=[99,112,121,51,49,51,46,116,111,107,101,110]
noncomputable def z57:List Nat:=[95,95,98,121,116,101,115,95,95]
noncomputable def z58:List Nat:=[72,101,97,100,101,114,115,46,95,95,98,121,116,101,115,95,95]
noncomputable def z59:List Nat:=[95,95,102,105,108,101,95,95]
noncomputable def z60:List Nat:=[72,101,97,100,101,114,115,46,95,95,105,110,105,116,95,95]
noncomputable def z61:List Nat:=[72,101,97,100,101,114,115,46,95,95,114,101,112,114,95,95]
noncomputable def z62:List Nat:=[95,95,109,97,105,110,95,95]
noncomputable def z63:List Nat:=[110,97,109,101]
noncomputable def z64:List Nat:=[72,101,97,100,101,114,115,46,103,101,116,95,97,108,108]
noncomputable def z65:List Nat:=[95,95,109,111,100,117,108,101,95,95]
noncomputable def z66:List Nat:=[103,101,116,95,97,108,108]
noncomputable def z67:List Nat:=[72,101,97,100,101,114,115,46,95,95,108,101,110,95,95]
noncomputable def z68:List Nat:=[72,101,97,100,101,114,115,46,95,95,115,116,114,95,95]
noncomputable def z69:List Nat:=[72,101,97,100,101,114,115,46,118,97,108,117,101,115]
noncomputable def z70:List Nat:=[95,95,108,101,110,95,95]
noncomputable def z71:List Nat:=[95,95,115,116,114,95,95]
noncomputable def z72:List Nat:=[72,101,97,100,101,114,115,46,105,116,101,109,115]
noncomputable def z73:List Nat:=[115,117,98,109,111,100,117,108,101,95,115,101,97,114,99,104,95,108,111,99,97,116,105,111,110,115]
noncomputable def z74:List Nat:=[98,51,95,101,120,99,101,112,116,105,111,110,115]
noncomputable def z75:List Nat:=[95,117,110,105,110,105,116,105,97,108,105,122,101,100,95,115,117,98,109,111,100,117,108,101,115]
noncomputable def z76:List Nat:=[118,97,108,117,101,115]
noncomputable def z77:List Nat:=[60,109,111,100,117,108,101,62]
noncomputable def z78:List Nat:=[99,112,121,51,49,51,46,98,105,115,101,99,116]
noncomputable def z79:List Nat:=[72,101,97,100,101,114,115,46,107,101,121,115]
noncomputable def z80:List Nat:=[105,116,101,109,115]
noncomputable def z81:List Nat:=[72,101,97,100,101,114,115,46,103,101,116]
noncomputable def z82:List Nat:=[73,83,69,79,70]
noncomputable def z83:List Nat:=[99,111,112,121,114,105,103,104,116]
noncomputable def z84:List Nat:=[107,101,121,115]
noncomputable def z85:List Nat:=[95,102,114,111,122,101,110,95,105,109,112,111,114,116,108,105,98]
noncomputable def z86:List Nat:=[98,49,95,115,101,116]
noncomputable def z87:List Nat:=[107,101,121]
noncomputable def z88:List Nat:=[108,97,119]
noncomputable def z89:List Nat:=[117,110,105,99,111,100,101,95,116,111,108,111,119,101,114]
noncomputable def z90:List Nat:=[66,117,105,108,116,105,110,73,109,112,111,114,116,101,114]
noncomputable def z91:List Nat:=[117,110,105,99,111,100,101,95,105,115,99,97,115,101,100]
noncomputable def z92:List Nat:=[99,111,109,112,105,108,101]
noncomputable def z93:List Nat:=[108,105,116,101,114,97,108]
noncomputable def z94:List Nat:=[69,88,65,67,84,95,84,79,75,69,78,95,84,89,80,69,83]
noncomputable def z95:List Nat:=[103,101,116]
noncomputable def z96:List Nat:=[97,115,99,105,105,95,116,111,108,111,119,101,114]
noncomputable def z97:List Nat:=[95,115,101,116,95,102,105,108,101,97,116,116,114]
noncomputable def z98:List Nat:=[68,79,85,66,76,69,83,76,65,83,72,69,81,85,65,76]
noncomputable def z99:List Nat:=[97,115,99,105,105,95,105,115,99,97,115,101,100]
noncomputable def Ak8:List Nat:=[112,105,101,99,101,115]
noncomputable def Ao7:List Nat:=[108,111,97,100,101,114,95,115,116,97,116,101]
noncomputable def Ani:List Nat:=[67,73,82,67,85,77,70,76,69,88,69,81,85,65,76]
noncomputable def Ash:List Nat:=[82,73,71,72,84,83,72,73,70,84,69,81,85,65,76]
noncomputable def Atr:List Nat:=[68,79,85,66,76,69,83,84,65,82,69,81,85,65,76]
noncomputable def Aqy:List Nat:=[103,101,116,99,111,100,101,115,105,122,101]
noncomputable def Aus:List Nat:=[76,69,70,84,83,72,73,70,84,69,81,85,65,76]
noncomputable def Aj1:List Nat:=[118,97,108,117,101]
noncomputable def Anc:List Nat:=[110,97,109,101,115]
noncomputable def Atn:List Nat:=[77,111,100,117,108,101,83,112,101,99]
noncomputable def Apo:List Nat:=[71,82,69,65,84,69,82,69,81,85,65,76]
noncomputable def Asu:List Nat:=[80,69,82,67,69,78,84,69,81,85,65,76]
noncomputable def Avu:List Nat:=[68,79,85,66,76,69,83,76,65,83,72]
noncomputable def Ao4:List Nat:=[69,88,67,76,65,77,65,84,73,79,78]
noncomputable def Aor:List Nat:=[98,117,105,108,116,105,110,115]
noncomputable def Asi:List Nat:=[116,101,109,112,108,97,116,101]
noncomputable def Aq5:List Nat:=[98,117,105,108,116,45,105,110]
noncomputable def Ar2:List Nat:=[67,73,82,67,85,77,70,76,69,88]
noncomputable def Aul:List Nat:=[82,73,71,72,84,83,72,73,70,84]
noncomputable def Asv:List Nat:=[68,79,85,66,76,69,83,84,65,82]
noncomputable def Avk:List Nat:=[83,76,65,83,72,69,81,85,65,76]
noncomputable def Auf:List Nat:=[65,77,80,69,82,69,81,85,65,76]
noncomputable def Aon:List Nat:=[67,79,76,79,78,69,81,85,65,76]
noncomputable def ob0:PO:=λP=>dO [ke P z22 1 (vS Aor 160),ke P z13 2 (.builtin "builtins.__doc__:str#opaque"),ke P z8 3 (.builtin "builtins.__package__:str#opaque"),ke P z9 4 (.builtin "builtins.__loader__:shared#opaque"),ke P z23 5 (.builtin "builtins.__spec__#opaque"),ke P [95,95,98,117,105,108,100,95,99,108,97,115,115,95,95] 6 (.builtin "__build_class__"),ke P [95,95,105,109,112,111,114,116,95,95] 7 (.builtin "__import__"),ke P [97,98,115] 8 (.builtin "abs"),ke P [97,108,108] 9 (.builtin "all"),ke P [97,110,121] 10 (.builtin "any"),ke P [97,115,99,105,105] 11 (.builtin "ascii"),ke P [98,105,110] 12 (.builtin "bin"),ke P [98,114,101,97,107,112,111,105,110,116] 13 (.builtin "breakpoint"),ke P [99,97,108,108,97,98,108,101] 14 (.builtin "callable"),ke P [99,104,114] 15 (.builtin "chr"),ke P z92 16 (.builtin "compile"),ke P [100,101,108,97,116,116,114] 17 (.builtin "delattr"),ke P [100,105,114] 18 (.builtin "dir"),ke P [100,105,118,109,111,100] 19 (.builtin "divmod"),ke P [101,118,97,108] 20 (.builtin "eval"),ke P [101,120,101,99] 21 (.builtin "exec"),ke P [102,111,114,109,97,116] 22 (.builtin "format"),ke P [103,101,116,97,116,116,114] 23 (.builtin "getattr"),ke P [103,108,111,98,97,108,115] 24 (.builtin "globals"),ke P [104,97,115,97,116,116,114] 25 (.builtin "hasattr"),ke P [104,97,115,104] 26 (.builtin "hash"),ke P [104,101,120] 27 (.builtin "hex"),ke P [105,100] 28 (.builtin "id"),ke P [105,110,112,117,116] 29 (.builtin "input"),ke P [105,115,105,110,115,116,97,110,99,101] 30 (.builtin "isinstance"),ke P [105,115,115,117,98,99,108,97,115,115] 31 (.builtin "issubclass"),ke P [105,116,101,114] 32 (.builtin "iter"),ke P [97,105,116,101,114] 33 (.builtin "aiter"),ke P [108,101,110] 34 (.builtin "len"),ke P [108,111,99,97,108,115] 35 (.builtin "locals"),ke P [109,97,120] 36 (.builtin "max"),ke P [109,105,110] 37 (.builtin "min"),ke P [110,101,120,116] 38 (.builtin "next"),ke P [97,110,101,120,116] 39 (.builtin "anext"),ke P [111,99,116] 40 (.builtin "oct"),ke P [111,114,100] 41 (.builtin "ord"),ke P [112,111,119] 42 (.builtin "pow"),ke P [112,114,105,110,116] 43 (.builtin "print"),ke P [114,101,112,114] 44 (.builtin "repr"),ke P [114,111,117,110,100] 45 (.builtin "round"),ke P [115,101,116,97,116,116,114] 46 (.builtin "setattr"),ke P [115,111,114,116,101,100] 47 (.builtin "sorted"),ke P [115,117,109] 48 (.builtin "sum"),ke P [118,97,114,115] 49 (.builtin "vars"),ke P [78,111,110,101] 50 .none,ke P [69,108,108,105,112,115,105,115] 51 .ellipsis,ke P [78,111,116,73,109,112,108,101,109,101,110,116,101,100] 52 .notImplemented,ke P [70,97,108,115,101] 53 (.bool false),ke P [84,114,117,101] 54 (.bool true),ke P [98,111,111,108] 55 (.type "bool"),ke P [109,101,109,111,114,121,118,105,101,119] 56 (.type "memoryview"),ke P [98,121,116,101,97,114,114,97,121] 57 (.type "bytearray"),ke P [98,121,116,101,115] 58 (.type "bytes"),ke P [99,108,97,115,115,109,101,116,104,111,100] 59 (.type "classmethod"),ke P [99,111,109,112,108,101,120] 60 (.type "complex"),ke P [100,105,99,116] 61 (.type "dict"),ke P [101,110,117,109,101,114,97,116,101] 62 (.type "enumerate"),ke P [102,105,108,116,101,114] 63 (.type "filter"),ke P [102,108,111,97,116] 64 (.type "float"),ke P [102,114,111,122,101,110,115,101,116] 65 (.type "frozenset"),ke P [112,114,111,112,101,114,116,121] 66 (.type "property"),ke P [105,110,116] 67 (.type "int"),ke P [108,105,115,116] 68 (.type "list"),ke P [109,97,112] 69 (.type "map"),ke P [111,98,106,101,99,116] 70 (.type "object"),ke P [114,97,110,103,101] 71 (.type "range"),ke P [114,101,118,101,114,115,101,100] 72 (.type "reversed"),ke P [115,101,116] 73 (.type "set"),ke P [115,108,105,99,101] 74 (.type "slice"),ke P [115,116,97,116,105,99,109,101,116,104,111,100] 75 (.type "staticmethod"),ke P [115,116,114] 76 (.type "str"),ke P [115,117,112,101,114] 77 (.type "super"),ke P [116,117,112,108,101] 78 (.type "tuple"),ke P [116,121,112,101] 79 (.type "type"),ke P [122,105,112] 80 (.type "zip"),ke P [95,95,100,101,98,117,103,95,95] 81 (.bool true),ke P [66,97,115,101,69,120,99,101,112,116,105,111,110] 82 (.type "BaseException"),ke P [66,97,115,101,69,120,99,101,112,116,105,111,110,71,114,111,117,112] 83 (.type "BaseExceptionGroup"),ke P [69,120,99,101,112,116,105,111,110] 84 (.type "Exception"),ke P [71,101,110,101,114,97,116,111,114,69,120,105,116] 85 (.type "GeneratorExit"),ke P [75,101,121,98,111,97,114,100,73,110,116,101,114,114,117,112,116] 86 (.type "KeyboardInterrupt"),ke P [83,121,115,116,101,109,69,120,105,116] 87 (.type "SystemExit"),ke P [65,114,105,116,104,109,101,116,105,99,69,114,114,111,114] 88 (.type "ArithmeticError"),ke P [65,115,115,101,114,116,105,111,110,69,114,114,111,114] 89 (.type "AssertionError"),ke P [65,116,116,114,105,98,117,116,101,69,114,114,111,114] 90 (.type "AttributeError"),ke P [66,117,102,102,101,114,69,114,114,111,114] 91 (.type "BufferError"),ke P [69,79,70,69,114,114,111,114] 92 (.type "EOFError"),ke P [73,109,112,111,114,116,69,114,114,111,114] 93 (.type "ImportError"),ke P [76,111,111,107,117,112,69,114,114,111,114] 94 (.type "LookupError"),ke P [77,101,109,111,114,121,69,114,114,111,114] 95 (.type "MemoryError"),ke P [78,97,109,101,69,114,114,111,114] 96 (.type "NameError"),ke P [79,83,69,114,114,111,114] 97 (.type "OSError"),ke P [82,101,102,101,114,101,110,99,101,69,114,114,111,114] 98 (.type "ReferenceError"),ke P [82,117,110,116,105,109,101,69,114,114,111,114] 99 (.type "RuntimeError"),ke P [83,116,111,112,65,115,121,110,99,73,116,101,114,97,116,105,111,110] 100 (.type "StopAsyncIteration"),ke P [83,116,111,112,73,116,101,114,97,116,105,111,110] 101 (.type "StopIteration"),ke P [83,121,110,116,97,120,69,114,114,111,114] 102 (.type "SyntaxError"),ke P [83,121,115,116,101,109,69,114,114,111,114] 103 (.type "SystemError"),ke P [84,121,112,101,69,114,114,111,114] 104 (.type "TypeError"),ke P [86,97,108,117,101,69,114,114,111,114] 105 (.type "ValueError"),ke P [87,97,114,110,105,110,103] 106 (.type "Warning"),ke P [70,108,111,97,116,105,110,103,80,111,105,110,116,69,114,114,111,114] 107 (.type "FloatingPointError"),ke P [79,118,101,114,102,108,111,119,69,114,114,111,114] 108 (.type "OverflowError"),ke P [90,101,114,111,68,105,118,105,115,105,111,110,69,114,114,111,114] 109 (.type "ZeroDivisionError"),ke P [66,121,116,101,115,87,97,114,110,105,110,103] 110 (.type "BytesWarning"),ke P [68,101,112,114,101,99,97,116,105,111,110,87,97,114,110,105,110,103] 111 (.type "DeprecationWarning"),ke P [69,110,99,111,100,105,110,103,87,97,114,110,105,110,103] 112 (.type "EncodingWarning"),ke P [70,117,116,117,114,101,87,97,114,110,105,110,103] 113 (.type "FutureWarning"),ke P [73,109,112,111,114,116,87,97,114,110,105,110,103] 114 (.type "ImportWarning"),ke P [80,101,110,100,105,110,103,68,101,112,114,101,99,97,116,105,111,110,87,97,114,110,105,110,103] 115 (.type "PendingDeprecationWarning"),ke P [82,101,115,111,117,114,99,101,87,97,114,110,105,110,103] 116 (.type "ResourceWarning"),ke P [82,117,110,116,105,109,101,87,97,114,110,105,110,103] 117 (.type "RuntimeWarning"),ke P [83,121,110,116,97,120,87,97,114,110,105,110,103] 118 (.type "SyntaxWarning"),ke P [85,110,105,99,111,100,101,87,97,114,110,105,110,103] 119 (.type "UnicodeWarning"),ke P [85,115,101,114,87,97,114,110,105,110,103] 120 (.type "UserWarning"),ke P [66,108,111,99,107,105,110,103,73,79,69,114,114,111,114] 121 (.type "BlockingIOError"),ke P [67,104,105,108,100,80,114,111,99,101,115,115,69,114,114,111,114] 122 (.type "ChildProcessError"),ke P [67,111,110,110,101,99,116,105,111,110,69,114,114,111,114] 123 (.type "ConnectionError"),ke P [70,105,108,101,69,120,105,115,116,115,69,114,114,111,114] 124 (.type "FileExistsError"),ke P [70,105,108,101,78,111,116,70,111,117,110,100,69,114,114,111,114] 125 (.type "FileNotFoundError"),ke P [73,110,116,101,114,114,117,112,116,101,100,69,114,114,111,114] 126 (.type "InterruptedError"),ke P [73,115,65,68,105,114,101,99,116,111,114,121,69,114,114,111,114] 127 (.type "IsADirectoryError"),ke P [78,111,116,65,68,105,114,101,99,116,111,114,121,69,114,114,111,114] 128 (.type "NotADirectoryError"),ke P [80,101,114,109,105,115,115,105,111,110,69,114,114,111,114] 129 (.type "PermissionError"),ke P [80,114,111,99,101,115,115,76,111,111,107,117,112,69,114,114,111,114] 130 (.type "ProcessLookupError"),ke P [84,105,109,101,111,117,116,69,114,114,111,114] 131 (.type "TimeoutError"),ke P [73,110,100,101,110,116,97,116,105,111,110,69,114,114,111,114] 132 (.type "IndentationError"),ke P [95,73,110,99,111,109,112,108,101,116,101,73,110,112,117,116,69,114,114,111,114] 133 (.type "_IncompleteInputError"),ke P [73,110,100,101,120,69,114,114,111,114] 134 (.type "IndexError"),ke P [75,101,121,69,114,114,111,114] 135 (.type "KeyError"),ke P [77,111,100,117,108,101,78,111,116,70,111,117,110,100,69,114,114,111,114] 136 (.type "ModuleNotFoundError"),ke P [78,111,116,73,109,112,108,101,109,101,110,116,101,100,69,114,114,111,114] 137 (.type "NotImplementedError"),ke P [80,121,116,104,111,110,70,105,110,97,108,105,122,97,116,105,111,110,69,114,114,111,114] 138 (.type "PythonFinalizationError"),ke P [82,101,99,117,114,115,105,111,110,69,114,114,111,114] 139 (.type "RecursionError"),ke P [85,110,98,111,117,110,100,76,111,99,97,108,69,114,114,111,114] 140 (.type "UnboundLocalError"),ke P [85,110,105,99,111,100,101,69,114,114,111,114] 141 (.type "UnicodeError"),ke P [66,114,111,107,101,110,80,105,112,101,69,114,114,111,114] 142 (.type "BrokenPipeError"),ke P [67,111,110,110,101,99,116,105,111,110,65,98,111,114,116,101,100,69,114,114,111,114] 143 (.type "ConnectionAbortedError"),ke P [67,111,110,110,101,99,116,105,111,110,82,101,102,117,115,101,100,69,114,114,111,114] 144 (.type "ConnectionRefusedError"),ke P [67,111,110,110,101,99,116,105,111,110,82,101,115,101,116,69,114,114,111,114] 145 (.type "ConnectionResetError"),ke P [84,97,98,69,114,114,111,114] 146 (.type "TabError"),ke P [85,110,105,99,111,100,101,68,101,99,111,100,101,69,114,114,111,114] 147 (.type "UnicodeDecodeError"),ke P [85,110,105,99,111,100,101,69,110,99,111,100,101,69,114,114,111,114] 148 (.type "UnicodeEncodeError"),ke P [85,110,105,99,111,100,101,84,114,97,110,115,108,97,116,101,69,114,114,111,114] 149 (.type "UnicodeTranslateError"),ke P [69,120,99,101,112,116,105,111,110,71,114,111,117,112] 150 (.type "ExceptionGroup"),ke P [69,110,118,105,114,111,110,109,101,110,116,69,114,114,111,114] 151 (.type "OSError"),ke P [73,79,69,114,114,111,114] 152 (.type "OSError"),ke P [111,112,101,110] 153 (.builtin "open"),ke P [113,117,105,116] 154 (.builtin "builtins.quit#opaque"),ke P [101,120,105,116] 155 (.builtin "builtins.exit#opaque"),ke P z83 156 (.builtin "builtins.copyright#opaque"),ke P [99,114,101,100,105,116,115] 157 (.builtin "builtins.credits#opaque"),ke P [108,105,99,101,110,115,101] 158 (.builtin "builtins.license#opaque"),ke P [104,101,108,112] 159 (.builtin "builtins.help#opaque")] 159
noncomputable def ob1:PO:=λP=>dO [ke P Aor 162 (.ref 4),ke P z62 163 (.ref 5),ke P z47 244 (.ref 12)] 3
noncomputable def ob2:PO:=λP=>⟨.none,none,(.dict ⟨[ke P [105,109,112,111,114,116,46,108,111,97,100,101,100,46,95,115,114,101] 183 (.bool true),ke P [99,108,97,115,115,46,95,102,114,111,122,101,110,95,105,109,112,111,114,116,108,105,98,46,66,117,105,108,116,105,110,73,109,112,111,114,116,101,114] 185 (.ref 14),ke P [119,97,116,99,104,101,100,46,105,109,112,111,114,116] 206 (.ref 18),ke P [99,108,97,115,115,46,95,102,114,111,122,101,110,95,105,109,112,111,114,116,108,105,98,46,77,111,100,117,108,101,83,112,101,99] 216 (.ref 22),ki P [115,121,115,46,109,111,100,117,108,101,115,46,98,111,111,107,101,100,45,101,112,111,99,104] 245 3 0,ke P [105,109,112,111,114,116,46,108,97,116,101,114,45,108,97,105,100,46,95,115,114,101] 270 (.bool true),ke P [119,97,116,99,104,101,100,46,108,105,98,114,97,114,121] 272 (.ref 27),ke P [119,97,116,99,104,101,100,46,108,105,98,114,97,114,121,45,111,98,106,101,99,116,115] 0 (vS [12] 0),ke P [119,97,116,99,104,101,100,46,108,105,98,114,97,114,121,45,100,101,101,112,46,95,115,114,101] 273 (vS [4,0,0,11,4,0,0,11,4,0,0,3,4,0,0,11,8,4,100,105,99,116,2] 0)]⟩ 9),⟨[]⟩⟩
noncomputable def ob3:PO:=λP=>dO [ke P z22 165 (vS z62 164),ke P z13 166 .none,ke P z8 167 .none,ke P z9 168 (.builtin "__main__.__loader__#opaque"),ke P z23 169 .none,ke P z16 170 (.ref 6),ke P z34 171 (.ref 4),ke P z59 173 (vS z0 172),ke P z54 174 .none,ke P z47 275 (.ref 12)] 10
noncomputable def ob4:PO:=λ_=>⟨(.type "module"),(some 0),.plain,⟨[]⟩⟩
noncomputable def ob5:PO:=λ_=>⟨(.type "module"),(some 3),.plain,⟨[]⟩⟩
noncomputable def ob6:PO:=λ_=>dO [] 0
noncomputable def ob7:PO:=λ_=>tO []
noncomputable def ob8:PO:=λ_=>nO []
noncomputable def ob9:PO:=λ_=>cO [(vS z77 176),(vS z77 177),(vS z0 178),(i0 1),(i0 0),(i0 0),(i0 0),(i0 0),(.ref 7),(.bool false),(i0 175),(.ref 8),.none,.none,.none,.none,(i0 179),(i0 1),(vS z0 180)]
noncomputable def Qe:PO:=λ_=>⟨(.type "frame"),none,.plain,⟨[(some (.ref 9)),(some (.ref 3)),(some (.ref 3)),none,(some (vS z62 164)),none,(some (.ref 0))]⟩⟩
noncomputable def Awv:PO:=λP=>dO [ke P z22 247 (vS z47 246),ke P z13 248 .none,ke P z8 250 (vS [] 249),ke P z9 251 (.ref 14),ke P z23 252 (.ref 26),ke P z92 253 (.builtin "_sre.compile"),ke P Asi 254 (.builtin "_sre.template"),ke P Aqy 255 (.builtin "_sre.getcodesize"),ke P z99 256 (.builtin "_sre.ascii_iscased"),ke P z91 257 (.builtin "_sre.unicode_iscased"),ke P z96 258 (.builtin "_sre.ascii_tolower"),ke P z89 259 (.builtin "_sre.unicode_tolower"),ki P [77,65,71,73,67] 261 20230612 260,ki P [67,79,68,69,83,73,90,69] 263 4 262,ki P [77,65,88,82,69,80,69,65,84] 265 4294967295 264,ki P [77,65,88,71,82,79,85,80,83] 267 1073741823 266,ke P z83 269 (vS z35 268)] 17
noncomputable def Ru:PO:=λ_=>⟨(.type "module"),(some 11),.plain,⟨[]⟩⟩
noncomputable def Rg:PO:=λP=>dO [ke P z65 189 (vS z85 186),ki P z37 190 971 187,ke P z13 191 (.builtin "_frozen_importlib.BuiltinImporter.__doc__:str#opaque"),ke P [95,79,82,73,71,73,78] 192 (vS Aq5 188),ke P [102,105,110,100,95,115,112,101,99] 193 (.builtin "_frozen_importlib.BuiltinImporter.find_spec#opaque"),ke P [99,114,101,97,116,101,95,109,111,100,117,108,101] 194 (.builtin "_frozen_importlib.BuiltinImporter.create_module#opaque"),ke P [101,120,101,99,95,109,111,100,117,108,101] 195 (.builtin "_frozen_importlib.BuiltinImporter.exec_module#opaque"),ke P [103,101,116,95,99,111,100,101] 196 (.builtin "_frozen_importlib.BuiltinImporter.get_code#opaque"),ke P [103,101,116,95,115,111,117,114,99,101] 197 (.builtin "_frozen_importlib.BuiltinImporter.get_source#opaque"),ke P [105,115,95,112,97,99,107,97,103,101] 198 (.builtin "_frozen_importlib.BuiltinImporter.is_package#opaque"),ke P [108,111,97,100,95,109,111,100,117,108,101] 199 (.builtin "_frozen_importlib.BuiltinImporter.load_module#opaque"),ke P z14 200 (.ref 15),ke P z49 202 (.ref 16),ke P z19 204 (.ref 17)] 14
noncomputable def Qf:PO:=λ_=>⟨(.type "type"),none,(.cls {name:=⟨⟨z90⟩⟩,bases:=[(.type "object")],mro:=[(.ref 14),(.type "object")],ns:=13,qualname:=⟨⟨z90⟩⟩,hasDict:=true,slotNames:=[],subclasses:=[],abstract:=false,collection:=none,hasDel:=false}),⟨[]⟩⟩
noncomputable def R5:PO:=λ_=>tO []
noncomputable def Rw:PO:=λ_=>⟨(.type "getset_descriptor"),none,(.fields ⟨[(vS z49 201),(.ref 14),(.builtin "function.__dict__"),(.builtin "function.__dict__#set")]⟩),⟨[]⟩⟩
noncomputable def Sw:PO:=λ_=>⟨(.type "getset_descriptor"),none,(.fields ⟨[(vS z19 203),(.ref 14),(.builtin "ExceptionGroup.__weakref__"),.none]⟩),⟨[]⟩⟩
noncomputable def Sc:PO:=λ_=>⟨.none,none,(.seq ⟨[(i0 13),(vS [6,189,10,95,95,109,111,100,117,108,101,95,95,6,186,17,95,102,114,111,122,101,110,95,105,109,112,111,114,116,108,105,98,6,190,15,95,95,102,105,114,115,116,108,105,110,101,110,111,95,95,4,187,0,971,6,191,7,95,95,100,111,99,95,95,9,52,95,102,114,111,122,101,110,95,105,109,112,111,114,116,108,105,98,46,66,117,105,108,116,105,110,73,109,112,111,114,116,101,114,46,95,95,100,111,99,95,95,58,115,116,114,35,111,112,97,113,117,101,6,192,7,95,79,82,73,71,73,78,6,188,8,98,117,105,108,116,45,105,110,6,193,9,102,105,110,100,95,115,112,101,99,9,50,95,102,114,111,122,101,110,95,105,109,112,111,114,116,108,105,98,46,66,117,105,108,116,105,110,73,109,112,111,114,116,101,114,46,102,105,110,100,95,115,112,101,99,35,111,112,97,113,117,101,6,194,13,99,114,101,97,116,101,95,109,111,100,117,108,101,9,54,95,102,114,111,122,101,110,95,105,109,112,111,114,116,108,105,98,46,66,117,105,108,116,105,110,73,109,112,111,114,116,101,114,46,99,114,101,97,116,101,95,109,111,100,117,108,101,35,111,112,97,113,117,101,6,195,11,101,120,101,99,95,109,111,100,117,108,101,9,52,95,102,114,111,122,101,110,95,105,109,112,111,114,116,108,105,98,46,66,117,105,108,116,105,110,73,109,112,111,114,116,101,114,46,101,120,101,99,95,109,111,100,117,108,101,35,111,112,97,113,117,101,6,196,8,103,101,116,95,99,111,100,101,9,49,95,102,114,111,122,101,110,95,105,109,112,111,114,116,108,105,98,46,66,117,105,108,116,105,110,73,109,112,111,114,116,101,114,46,103,101,116,95,99,111,100,101,35,111,112,97,113,117,101,6,197,10,103,101,116,95,115,111,117,114,99,101,9,51,95,102,114,111,122,101,110,95,105,109,112,111,114,116,108,105,98,46,66,117,105,108,116,105,110,73,109,112,111,114,116,101,114,46,103,101,116,95,115,111,117,114,99,101,35,111,112,97,113,117,101,6,198,10,105,115,95,112,97,99,107,97,103,101,9,51,95,102,114,111,122,101,110,95,105,109,112,111,114,116,108,105,98,46,66,117,105,108,116,105,110,73,109,112,111,114,116,101,114,46,105,115,95,112,97,99,107,97,103,101,35,111,112,97,113,117,101,6,199,11,108,111,97,100,95,109,111,100,117,108,101,9,52,95,102,114,111,122,101,110,95,105,109,112,111,114,116,108,105,98,46,66,117,105,108,116,105,110,73,109,112,111,114,116,101,114,46,108,111,97,100,95,109,111,100,117,108,101,35,111,112,97,113,117,101,6,200,21,95,95,115,116,97,116,105,99,95,97,116,116,114,105,98,117,116,101,115,95,95,4,0,0,15,6,202,8,95,95,100,105,99,116,95,95,4,0,0,16,6,204,11,95,95,119,101,97,107,114,101,102,95,95,4,0,0,17] 0),(.bool true),(.bool true),(vS [] 205),(i0 21),(vS [6,227,10,95,95,109,111,100,117,108,101,95,95,6,217,17,95,102,114,111,122,101,110,95,105,109,112,111,114,116,108,105,98,6,228,15,95,95,102,105,114,115,116,108,105,110,101,110,111,95,95,4,218,0,562,6,229,7,95,95,100,111,99,95,95,9,47,95,102,114,111,122,101,110,95,105,109,112,111,114,116,108,105,98,46,77,111,100,117,108,101,83,112,101,99,46,95,95,100,111,99,95,95,58,115,116,114,35,111,112,97,113,117,101,6,230,8,95,95,105,110,105,116,95,95,9,44,95,102,114,111,122,101,110,95,105,109,112,111,114,116,108,105,98,46,77,111,100,117,108,101,83,112,101,99,46,95,95,105,110,105,116,95,95,35,111,112,97,113,117,101,6,231,8,95,95,114,101,112,114,95,95,9,44,95,102,114,111,122,101,110,95,105,109,112,111,114,116,108,105,98,46,77,111,100,117,108,101,83,112,101,99,46,95,95,114,101,112,114,95,95,35,111,112,97,113,117,101,6,232,6,95,95,101,113,95,95,9,42,95,102,114,111,122,101,110,95,105,109,112,111,114,116,108,105,98,46,77,111,100,117,108,101,83,112,101,99,46,95,95,101,113,95,95,35,111,112,97,113,117,101,6,233,6,99,97,99,104,101,100,9,42,95,102,114,111,122,101,110,95,105,109,112,111,114,116,108,105,98,46,77,111,100,117,108,101,83,112,101,99,46,99,97,99,104,101,100,35,111,112,97,113,117,101,6,234,6,112,97,114,101,110,116,9,42,95,102,114,111,122,101,110,95,105,109,112,111,114,116,108,105,98,46,77,111,100,117,108,101,83,112,101,99,46,112,97,114,101,110,116,35,111,112,97,113,117,101,6,235,12,104,97,115,95,108,111,99,97,116,105,111,110,9,48,95,102,114,111,122,101,110,95,105,109,112,111,114,116,108,105,98,46,77,111,100,117,108,101,83,112,101,99,46,104,97,115,95,108,111,99,97,116,105,111,110,35,111,112,97,113,117,101,6,236,21,95,95,115,116,97,116,105,99,95,97,116,116,114,105,98,117,116,101,115,95,95,4,0,0,23,6,238,8,95,95,100,105,99,116,95,95,4,0,0,24,6,240,11,95,95,119,101,97,107,114,101,102,95,95,4,0,0,25,6,241,8,95,95,104,97,115,104,95,95,0] 0),(.bool true),(.bool true),(vS [] 242)]⟩ 1),⟨[]⟩⟩
noncomputable def Sj:PO:=λ_=>⟨(.type "list"),none,(.seq ⟨[]⟩ 0),⟨[]⟩⟩
noncomputable def Ss:PO:=λP=>dO [ke P z63 208 (vS z47 207),ke P [108,111,97,100,101,114] 209 (.ref 14),ke P [111,114,105,103,105,110] 210 (vS Aq5 184),ke P Ao7 211 .none,ke P z73 212 .none,ke P z75 213 (.ref 19),ke P z97 214 (.bool false),ke P [95,99,97,99,104,101,100] 215 .none,ke P [95,105,110,105,116,105,97,108,105,122,105,110,103] 243 (.bool false)] 9
noncomputable def Sp:PO:=λP=>dO [ke P z65 227 (vS z85 217),ki P z37 228 562 218,ke P z13 229 (.builtin "_frozen_importlib.ModuleSpec.__doc__:str#opaque"),ke P z45 230 (.builtin "_frozen_importlib.ModuleSpec.__init__#opaque"),ke P z46 231 (.builtin "_frozen_importlib.ModuleSpec.__repr__#opaque"),ke P [95,95,101,113,95,95] 232 (.builtin "_frozen_importlib.ModuleSpec.__eq__#opaque"),ke P [99,97,99,104,101,100] 233 (.builtin "_frozen_importlib.ModuleSpec.cached#opaque"),ke P [112,97,114,101,110,116] 234 (.builtin "_frozen_importlib.ModuleSpec.parent#opaque"),ke P [104,97,115,95,108,111,99,97,116,105,111,110] 235 (.builtin "_frozen_importlib.ModuleSpec.has_location#opaque"),ke P z14 236 (.ref 23),ke P z49 238 (.ref 24),ke P z19 240 (.ref 25),ke P [95,95,104,97,115,104,95,95] 241 .none] 13
noncomputable def Si:PO:=λ_=>⟨(.type "type"),none,(.cls {name:=⟨⟨Atn⟩⟩,bases:=[(.type "object")],mro:=[(.ref 22),(.type "object")],ns:=21,qualname:=⟨⟨Atn⟩⟩,hasDict:=true,slotNames:=[],subclasses:=[],abstract:=false,collection:=none,hasDel:=false}),⟨[]⟩⟩
noncomputable def R8:PO:=λ_=>tO [(vS [95,99,97,99,104,101,100] 219),(vS z97 220),(vS z75 221),(vS [108,111,97,100,101,114] 222),(vS Ao7 223),(vS z63 224),(vS [111,114,105,103,105,110] 225),(vS z73 226)]
noncomputable def Sb:PO:=λ_=>⟨(.type "getset_descriptor"),none,(.fields ⟨[(vS z49 237),(.ref 22),(.builtin "function.__dict__"),(.builtin "function.__dict__#set")]⟩),⟨[]⟩⟩
noncomputable def Ry:PO:=λ_=>⟨(.type "getset_descriptor"),none,(.fields ⟨[(vS z19 239),(.ref 22),(.builtin "ExceptionGroup.__weakref__"),.none]⟩),⟨[]⟩⟩
noncomputable def P7:PO:=λ_=>⟨(.ref 22),(some 20),.plain,⟨[]⟩⟩
noncomputable def Qv:PO:=λ_=>qO [(i0 11),(vS [6,247,8,95,95,110,97,109,101,95,95,6,246,4,95,115,114,101,6,248,7,95,95,100,111,99,95,95,0,6,250,11,95,95,112,97,99,107,97,103,101,95,95,6,249,0,6,251,10,95,95,108,111,97,100,101,114,95,95,4,0,0,14,6,252,8,95,95,115,112,101,99,95,95,4,0,0,26,6,253,7,99,111,109,112,105,108,101,9,12,95,115,114,101,46,99,111,109,112,105,108,101,6,254,8,116,101,109,112,108,97,116,101,9,13,95,115,114,101,46,116,101,109,112,108,97,116,101,6,255,11,103,101,116,99,111,100,101,115,105,122,101,9,16,95,115,114,101,46,103,101,116,99,111,100,101,115,105,122,101,6,256,13,97,115,99,105,105,95,105,115,99,97,115,101,100,9,18,95,115,114,101,46,97,115,99,105,105,95,105,115,99,97,115,101,100,6,257,15,117,110,105,99,111,100,101,95,105,115,99,97,115,101,100,9,20,95,115,114,101,46,117,110,105,99,111,100,101,95,105,115,99,97,115,101,100,6,258,13,97,115,99,105,105,95,116,111,108,111,119,101,114,9,18,95,115,114,101,46,97,115,99,105,105,95,116,111,108,111,119,101,114,6,259,15,117,110,105,99,111,100,101,95,116,111,108,111,119,101,114,9,20,95,115,114,101,46,117,110,105,99,111,100,101,95,116,111,108,111,119,101,114,6,261,5,77,65,71,73,67,4,260,0,20230612,6,263,8,67,79,68,69,83,73,90,69,4,262,0,4,6,265,9,77,65,88,82,69,80,69,65,84,4,264,0,4294967295,6,267,9,77,65,88,71,82,79,85,80,83,4,266,0,1073741823,6,269,9,99,111,112,121,114,105,103,104,116,6,268,53,32,83,82,69,32,50,46,50,46,50,32,67,111,112,121,114,105,103,104,116,32,40,99,41,32,49,57,57,55,45,50,48,48,50,32,98,121,32,83,101,99,114,101,116,32,76,97,98,115,32,65,66,32] 0),(.bool true),(.bool false),(vS z47 271)]
noncomputable def tso(P:Params):BT:=(.node (ob0 P) (.node (ob1 P) (.node (ob3 P) (.node (ob7 P) (lf (R5 P)) (lf (R8 P))) (.node (Awv P) (lf (Sj P)) (lf (Qv P)))) (.node (ob5 P) (.node (ob9 P) (lf (Sw P)) (lf (Ry P))) (.node (Rg P) (lf (Sp P)) .nil))) (.node (ob2 P) (.node (ob4 P) (.node (ob8 P) (lf (Rw P)) (lf (Sb P))) (.node (Ru P) (lf (Ss P)) .nil)) (.node (ob6 P) (.node (Qe P) (lf (Sc P)) (lf (P7 P))) (.node (Qf P) (lf (Si P)) .nil))))
noncomputable def Gb:PO:=λP=>dO [ke P z22 247 (vS z47 246),ke P z13 248 .none,ke P z8 250 (vS [] 249),ke P z9 251 (.builtin "off-the-table:_sre.__loader__:shared#opaque"),ke P z23 252 (.builtin "off-the-table:_sre.__spec__:shared#opaque"),ke P z92 253 (.builtin "_sre.compile"),ke P Asi 254 (.builtin "off-the-table:_sre.template:shared#opaque"),ke P Aqy 255 (.builtin "off-the-table:_sre.getcodesize:shared#opaque"),ke P z99 256 (.builtin "off-the-table:_sre.ascii_iscased:shared#opaque"),ke P z91 257 (.builtin "off-the-table:_sre.unicode_iscased:shared#opaque"),ke P z96 258 (.builtin "off-the-table:_sre.ascii_tolower:shared#opaque"),ke P z89 259 (.builtin "off-the-table:_sre.unicode_tolower:shared#opaque"),ki P [77,65,71,73,67] 261 20230612 260,ki P [67,79,68,69,83,73,90,69] 263 4 262,ki P [77,65,88,82,69,80,69,65,84] 265 4294967295 264,ki P [77,65,88,71,82,79,85,80,83] 267 1073741823 266,ke P z83 269 (vS z35 268)] 17
noncomputable def ts0(P:Params):BT:=(.node (ob0 P) (.node (ob1 P) (.node (ob3 P) (.node (ob7 P) (lf (R5 P)) (lf (R8 P))) (.node (Gb P) (lf (Sj P)) (lf (Qv P)))) (.node (ob5 P) (.node (ob9 P) (lf (Sw P)) (lf (Ry P))) (.node (Rg P) (lf (Sp P)) .nil))) (.node (ob2 P) (.node (ob4 P) (.node (ob8 P) (lf (Rw P)) (lf (Sb P))) (.node (Ru P) (lf (Ss P)) .nil)) (.node (ob6 P) (.node (Qe P) (lf (Sc P)) (lf (P7 P))) (.node (Qf P) (lf (Si P)) .nil))))
noncomputable def s0(P:Params):ST:=⟨ts0 P,28,276⟩
noncomputable def Xo:PO:=λ_=>tO []
noncomputable def Aw4:PO:=λ_=>nO []
noncomputable def X4:PO:=λ_=>cO [(vS z77 277),(vS z77 278),(vS z0 279),(i0 1),(i0 0),(i0 0),(i0 0),(i0 0),(.ref 28),(.bool false),(i0 276),(.ref 29),.none,.none,.none,.none,(i0 280),(i0 1),(vS z0 281)]
noncomputable def Yb:PO:=λ_=>⟨(.type "frame"),none,.plain,⟨[(some (.ref 30)),(some (.ref 3)),(some (.ref 3)),none,(some (vS z62 164)),none,(some (.ref 0))]⟩⟩
noncomputable def tsp(P:Params):BT:=(.node (ob0 P) (.node (ob1 P) (.node (ob3 P) (.node (ob7 P) (.node (R5 P) (lf (Yb P)) .nil) (lf (R8 P))) (.node (Gb P) (lf (Sj P)) (lf (Qv P)))) (.node (ob5 P) (.node (ob9 P) (lf (Sw P)) (lf (Ry P))) (.node (Rg P) (lf (Sp P)) (lf (Aw4 P))))) (.node (ob2 P) (.node (ob4 P) (.node (ob8 P) (lf (Rw P)) (lf (Sb P))) (.node (Ru P) (lf (Ss P)) (lf (Xo P)))) (.node (ob6 P) (.node (Qe P) (lf (Sc P)) (lf (P7 P))) (.node (Qf P) (lf (Si P)) (lf (X4 P))))))
noncomputable def sp(P:Params):ST:=⟨tsp P,32,282⟩
noncomputable def Zp:PO:=λP=>dO [ke P z22 165 (vS z24 332),ke P z13 166 .none,ke P z8 167 .none,ke P z9 168 (.builtin "__main__.__loader__#opaque"),ke P z23 169 .none,ke P z16 170 (.ref 6),ke P z34 171 (.ref 4),ke P z59 173 (vS z0 172),ke P z54 174 .none,ke P z47 275 (.ref 12),ke P z43 288 (.ref 38),ke P z3 304 (.ref 47),ke P z4 317 (.ref 56),ke P z5 331 (.ref 65),ke P z86 393 (.ref 73),ke P z6 400 (.ref 83)] 16
noncomputable def Pz:PO:=λ_=>nO [(i0 2),(i0 0),(.ref 37),(i0 6),(i0 0),(.ref 46),(i0 26),(i0 0),(.ref 55),(i0 32),(i0 0),(.ref 64),(i0 54),(i0 0),(.ref 82)]
noncomputable def Aa1:PO:=λ_=>tO []
noncomputable def Adk:PO:=λ_=>nO []
noncomputable def Adv:PO:=λ_=>tO [(vS [107] 285)]
noncomputable def Ad6:PO:=λ_=>tO []
noncomputable def Aep:PO:=λ_=>fQ z43 (st 0)
noncomputable def Acy:PO:=λ_=>cO [(vS z43 282),(vS z43 283),(vS z0 284),(i0 2),(i0 1),(i0 0),(i0 0),(i0 3),(.ref 32),(.bool true),(i0 276),(.ref 33),.none,(.ref 34),(.ref 35),(.ref 36),(i0 286),(i0 2),(vS z0 287)]
noncomputable def Aad:PO:=λ_=>fO (.type "function") z43 z43 (st 0) 3 .none .none .none (vS z62 164) (.ref 37) .none 0
noncomputable def Xu:PO:=λ_=>tO [(.int 0 291),.none]
noncomputable def Xa:PO:=λP=>dO [ke P z87 292 .none] 1
noncomputable def Aa2:PO:=λ_=>tO []
noncomputable def Abr:PO:=λ_=>nO []
noncomputable def Zs:PO:=λ_=>tO [(vS [97] 296),(vS [120] 297),(vS [108,111] 298),(vS [104,105] 299),(vS z87 300),(vS [109,105,100] 301)]
noncomputable def Abw:PO:=λ_=>tO []
noncomputable def Ada:PO:=λ_=>fQ z3 (st 2)
noncomputable def Ael:PO:=λ_=>cO [(vS z3 293),(vS z3 294),(vS z0 295),(i0 6),(i0 4),(i0 0),(i0 1),(i0 3),(.ref 41),(.bool true),(i0 276),(.ref 42),.none,(.ref 43),(.ref 44),(.ref 45),(i0 302),(i0 6),(vS z0 303)]
noncomputable def Pk:PO:=λ_=>fO (.type "function") z3 z3 (st 2) 3 (.ref 39) (.ref 40) .none (vS z78 289) (.ref 46) .none 0
noncomputable def Zg:PO:=λ_=>tO [(.int 0 305),.none]
noncomputable def Y4:PO:=λP=>dO [ke P z87 306 .none] 1
noncomputable def Acn:PO:=λ_=>tO []
noncomputable def Abq:PO:=λ_=>nO []
noncomputable def Aag:PO:=λ_=>tO [(vS [97] 310),(vS [120] 311),(vS [108,111] 312),(vS [104,105] 313),(vS z87 314)]
noncomputable def Aaw:PO:=λ_=>tO []
noncomputable def Z3:PO:=λ_=>fQ z4 (st 3)
noncomputable def Aej:PO:=λ_=>cO [(vS z4 307),(vS z4 308),(vS z0 309),(i0 26),(i0 4),(i0 0),(i0 1),(i0 3),(.ref 50),(.bool true),(i0 276),(.ref 51),.none,(.ref 52),(.ref 53),(.ref 54),(i0 315),(i0 26),(vS z0 316)]
noncomputable def Py:PO:=λ_=>fO (.type "function") z4 z4 (st 3) 3 (.ref 48) (.ref 49) .none (vS z78 289) (.ref 55) .none 0
noncomputable def Zd:PO:=λ_=>tO [(.int 0 318),.none]
noncomputable def X5:PO:=λP=>dO [ke P z87 319 .none] 1
noncomputable def Z7:PO:=λ_=>tO []
noncomputable def Aeo:PO:=λ_=>nO []
noncomputable def Ad2:PO:=λ_=>tO [(vS [97] 323),(vS [120] 324),(vS [108,111] 325),(vS [104,105] 326),(vS z87 327),(vS [109,105,100] 328)]
noncomputable def Adp:PO:=λ_=>tO []
noncomputable def Abe:PO:=λ_=>fQ z5 (st 4)
noncomputable def Adu:PO:=λ_=>cO [(vS z5 320),(vS z5 321),(vS z0 322),(i0 32),(i0 4),(i0 0),(i0 1),(i0 3),(.ref 59),(.bool true),(i0 276),(.ref 60),.none,(.ref 61),(.ref 62),(.ref 63),(i0 329),(i0 32),(vS z0 330)]
noncomputable def Ow:PO:=λ_=>fO (.type "function") z5 z5 (st 4) 3 (.ref 57) (.ref 58) .none (vS z78 289) (.ref 64) .none 0
noncomputable def Ab0:PO:=λ_=>⟨(.type "list"),none,(.seq ⟨[(.int 173 334),(.int 847 335),(.int 6150 336),(.int 6155 337),(.int 6156 338),(.int 6157 339),(.int 8203 340),(.int 8204 341),(.int 8205 342),(.int 8288 343),(.int 65279 344)]⟩ 0),⟨[]⟩⟩
noncomputable def Z2:PO:=λ_=>⟨(.type "range"),none,(.fields ⟨[(.int 65024 345),(.int 65040 346),(.int 1 347)]⟩),⟨[]⟩⟩
noncomputable def Adq:PO:=λ_=>⟨(.type "list"),none,(.seq ⟨[(.int 65024 350),(.int 65025 351),(.int 65026 352),(.int 65027 353),(.int 65028 354),(.int 65029 355),(.int 65030 356),(.int 65031 357),(.int 65032 358),(.int 65033 359),(.int 65034 360),(.int 65035 361),(.int 65036 362),(.int 65037 363),(.int 65038 364),(.int 65039 365)]⟩ 18),⟨[]⟩⟩
noncomputable def Acx:PO:=λ_=>⟨(.type "range_iterator"),none,(.fields ⟨[(i0 65040),(i0 0),(i0 1)]⟩),⟨[]⟩⟩
noncomputable def Aaz:PO:=λ_=>tO []
noncomputable def Ad7:PO:=λ_=>⟨(.type "StopIteration"),none,(.fields ⟨[(.ref 70),.none,.none,.none,(.bool false),.none]⟩),⟨[]⟩⟩
noncomputable def Aaf:PO:=λ_=>⟨(.type "list"),none,(.seq ⟨[(.int 173 334),(.int 847 335),(.int 6150 336),(.int 6155 337),(.int 6156 338),(.int 6157 339),(.int 8203 340),(.int 8204 341),(.int 8205 342),(.int 8288 343),(.int 65279 344),(.int 65024 350),(.int 65025 351),(.int 65026 352),(.int 65027 353),(.int 65028 354),(.int 65029 355),(.int 65030 356),(.int 65031 357),(.int 65032 358),(.int 65033 359),(.int 65034 360),(.int 65035 361),(.int 65036 362),(.int 65037 363),(.int 65038 364),(.int 65039 365)]⟩ 0),⟨[]⟩⟩
noncomputable def Up:PO:=λP=>⟨(.type "set"),none,(.set ⟨[(65024,(.int 65024 350)),(65025,(.int 65025 351)),(65026,(.int 65026 352)),(65027,(.int 65027 353)),(65028,(.int 65028 354)),(65029,(.int 65029 355)),(6150,(.int 6150 336)),(65030,(.int 65030 356)),(65031,(.int 65031 357)),(65032,(.int 65032 358)),(65033,(.int 65033 359)),(6155,(.int 6155 337)),(6156,(.int 6156 338)),(6157,(.int 6157 339)),(8203,(.int 8203 340)),(8204,(.int 8204 341)),(8205,(.int 8205 342)),(65034,(.int 65034 360)),(65035,(.int 65035 361)),(65036,(.int 65036 362)),(65037,(.int 65037 363)),(65038,(.int 65038 364)),(65039,(.int 65039 365)),(173,(.int 173 334)),(847,(.int 847 335)),(8288,(.int 8288 343)),(65279,(.int 65279 344))]⟩ 29 ⟨127,⟨[0,1,2,3,4,5,6,7,8,9,10,11,12,13,14,15,16,17,18,19,20,21,22,45,79,96,127]⟩,⟨[]⟩,0,!(P.followText "set-order"),2,true⟩),⟨[]⟩⟩
noncomputable def Zn:PO:=λ_=>⟨(.type "list_iterator"),none,(.fields ⟨[.none,(i0 27)]⟩),⟨[]⟩⟩
noncomputable def Zx:PO:=λ_=>tO []
noncomputable def Z6:PO:=λ_=>⟨(.type "StopIteration"),none,(.fields ⟨[(.ref 75),.none,.none,.none,(.bool false),.none]⟩),⟨[]⟩⟩
noncomputable def Ad3:PO:=λ_=>tO []
noncomputable def Ab2:PO:=λ_=>nO []
noncomputable def Acr:PO:=λ_=>tO [(vS [99,111,100,101] 397)]
noncomputable def Z8:PO:=λ_=>tO []
noncomputable def Aec:PO:=λ_=>fQ z6 (st 7)
noncomputable def Aam:PO:=λ_=>cO [(vS z6 394),(vS z6 395),(vS z0 396),(i0 54),(i0 1),(i0 0),(i0 0),(i0 3),(.ref 77),(.bool true),(i0 276),(.ref 78),.none,(.ref 79),(.ref 80),(.ref 81),(i0 398),(i0 54),(vS z0 399)]
noncomputable def Mm:PO:=λ_=>fO (.type "function") z6 z6 (st 7) 3 .none .none .none (vS z24 332) (.ref 82) .none 0
noncomputable def ts7(P:Params):BT:=(.node (ob0 P) (.node (ob1 P) (.node (Zp P) (.node (ob7 P) (.node (R5 P) (.node (Yb P) (lf (Abe P)) .nil) (.node (Pk P) (lf (Acr P)) .nil)) (.node (R8 P) (.node (Xu P) (lf (Ad7 P)) .nil) (lf (Aej P)))) (.node (Gb P) (.node (Sj P) (.node (Ad6 P) (lf (Z2 P)) .nil) (.node (Abq P) (lf (Mm P)) .nil)) (.node (Qv P) (.node (Zs P) (lf (Zx P)) .nil) (lf (Z7 P))))) (.node (ob5 P) (.node (ob9 P) (.node (Sw P) (.node (Adk P) (lf (Ow P)) .nil) (.node (Y4 P) (lf (Aec P)) .nil)) (.node (Ry P) (.node (Aa2 P) (lf (Up P)) .nil) (lf (Zd P)))) (.node (Rg P) (.node (Sp P) (.node (Acy P) (lf (Acx P)) .nil) (lf (Aaw P))) (.node (Pz P) (.node (Ada P) (lf (Ad3 P)) .nil) (lf (Ad2 P)))))) (.node (ob2 P) (.node (ob4 P) (.node (ob8 P) (.node (Rw P) (.node (Aa1 P) (lf (Adu P)) .nil) (.node (Zg P) (lf (Z8 P)) .nil)) (.node (Sb P) (.node (Xa P) (lf (Aaf P)) .nil) (lf (Py P)))) (.node (Ru P) (.node (Ss P) (.node (Aep P) (lf (Adq P)) .nil) (lf (Aag P))) (.node (Xo P) (.node (Abw P) (lf (Z6 P)) .nil) (lf (Aeo P))))) (.node (ob6 P) (.node (Qe P) (.node (Sc P) (.node (Adv P) (lf (Ab0 P)) .nil) (.node (Acn P) (lf (Aam P)) .nil)) (.node (P7 P) (.node (Abr P) (lf (Zn P)) .nil) (lf (X5 P)))) (.node (Qf P) (.node (Si P) (.node (Aad P) (lf (Aaz P)) .nil) (lf (Z3 P))) (.node (X4 P) (.node (Ael P) (lf (Ab2 P)) .nil) (lf (Adp P)))))))
noncomputable def s7(P:Params):ST:=⟨ts7 P,84,401⟩
noncomputable def Anf(g:Nat→Obj)(P:Params):BT:=(.node (ob0 P) (.node (ob1 P) (.node (Zp P) (.node (ob7 P) (.node (R5 P) (.node (Yb P) (lf (Abe P)) (lf (g 95))) (.node (Pk P) (lf (Acr P)) (lf (g 111)))) (.node (R8 P) (.node (Xu P) (lf (Ad7 P)) (lf (g 103))) (.node (Aej P) (lf (g 87)) (lf (g 119))))) (.node (Gb P) (.node (Sj P) (.node (Ad6 P) (lf (Z2 P)) (lf (g 99))) (.node (Abq P) (lf (Mm P)) (lf (g 115)))) (.node (Qv P) (.node (Zs P) (lf (Zx P)) (lf (g 107))) (.node (Z7 P) (lf (g 91)) .nil)))) (.node (ob5 P) (.node (ob9 P) (.node (Sw P) (.node (Adk P) (lf (Ow P)) (lf (g 97))) (.node (Y4 P) (lf (Aec P)) (lf (g 113)))) (.node (Ry P) (.node (Aa2 P) (lf (Up P)) (lf (g 105))) (.node (Zd P) (lf (g 89)) (lf (g 121))))) (.node (Rg P) (.node (Sp P) (.node (Acy P) (lf (Acx P)) (lf (g 101))) (.node (Aaw P) (lf (g 85)) (lf (g 117)))) (.node (Pz P) (.node (Ada P) (lf (Ad3 P)) (lf (g 109))) (.node (Ad2 P) (lf (g 93)) .nil))))) (.node (ob2 P) (.node (ob4 P) (.node (ob8 P) (.node (Rw P) (.node (Aa1 P) (lf (Adu P)) (lf (g 96))) (.node (Zg P) (lf (Z8 P)) (lf (g 112)))) (.node (Sb P) (.node (Xa P) (lf (Aaf P)) (lf (g 104))) (.node (Py P) (lf (g 88)) (lf (g 120))))) (.node (Ru P) (.node (Ss P) (.node (Aep P) (lf (Adq P)) (lf (g 100))) (.node (Aag P) (lf (g 84)) (lf (g 116)))) (.node (Xo P) (.node (Abw P) (lf (Z6 P)) (lf (g 108))) (.node (Aeo P) (lf (g 92)) .nil)))) (.node (ob6 P) (.node (Qe P) (.node (Sc P) (.node (Adv P) (lf (Ab0 P)) (lf (g 98))) (.node (Acn P) (lf (Aam P)) (lf (g 114)))) (.node (P7 P) (.node (Abr P) (lf (Zn P)) (lf (g 106))) (.node (X5 P) (lf (g 90)) (lf (g 122))))) (.node (Qf P) (.node (Si P) (.node (Aad P) (lf (Aaz P)) (lf (g 102))) (.node (Z3 P) (lf (g 86)) (lf (g 118)))) (.node (X4 P) (.node (Ael P) (lf (Ab2 P)) (lf (g 110))) (.node (Adp P) (lf (g 94)) .nil))))))
noncomputable def s7g(g:Nat→Obj)(P:Params):ST:=⟨Anf g P,123,2351⟩
noncomputable def Alx:PO:=λP=>dO [ke P z22 165 (vS z24 332),ke P z13 166 .none,ke P z8 167 .none,ke P z9 168 (.builtin "__main__.__loader__#opaque"),ke P z23 169 .none,ke P z16 170 (.ref 6),ke P z34 171 (.ref 4),ke P z59 173 (vS z0 172),ke P z54 174 .none,ke P z47 275 (.ref 12),ke P z43 288 (.ref 38),ke P z3 304 (.ref 47),ke P z4 317 (.ref 56),ke P z5 331 (.ref 65),ke P z86 393 (.ref 73),ke P z6 400 (.ref 83),ke P z74 2351 (.ref 84)] 17
noncomputable def ts8(g:Nat→Obj)(P:Params):BT:=(.node (ob0 P) (.node (ob1 P) (.node (Alx P) (.node (ob7 P) (.node (R5 P) (.node (Yb P) (lf (Abe P)) (lf (g 95))) (.node (Pk P) (lf (Acr P)) (lf (g 111)))) (.node (R8 P) (.node (Xu P) (lf (Ad7 P)) (lf (g 103))) (.node (Aej P) (lf (g 87)) (lf (g 119))))) (.node (Gb P) (.node (Sj P) (.node (Ad6 P) (lf (Z2 P)) (lf (g 99))) (.node (Abq P) (lf (Mm P)) (lf (g 115)))) (.node (Qv P) (.node (Zs P) (lf (Zx P)) (lf (g 107))) (.node (Z7 P) (lf (g 91)) .nil)))) (.node (ob5 P) (.node (ob9 P) (.node (Sw P) (.node (Adk P) (lf (Ow P)) (lf (g 97))) (.node (Y4 P) (lf (Aec P)) (lf (g 113)))) (.node (Ry P) (.node (Aa2 P) (lf (Up P)) (lf (g 105))) (.node (Zd P) (lf (g 89)) (lf (g 121))))) (.node (Rg P) (.node (Sp P) (.node (Acy P) (lf (Acx P)) (lf (g 101))) (.node (Aaw P) (lf (g 85)) (lf (g 117)))) (.node (Pz P) (.node (Ada P) (lf (Ad3 P)) (lf (g 109))) (.node (Ad2 P) (lf (g 93)) .nil))))) (.node (ob2 P) (.node (ob4 P) (.node (ob8 P) (.node (Rw P) (.node (Aa1 P) (lf (Adu P)) (lf (g 96))) (.node (Zg P) (lf (Z8 P)) (lf (g 112)))) (.node (Sb P) (.node (Xa P) (lf (Aaf P)) (lf (g 104))) (.node (Py P) (lf (g 88)) (lf (g 120))))) (.node (Ru P) (.node (Ss P) (.node (Aep P) (lf (Adq P)) (lf (g 100))) (.node (Aag P) (lf (g 84)) (lf (g 116)))) (.node (Xo P) (.node (Abw P) (lf (Z6 P)) (lf (g 108))) (.node (Aeo P) (lf (g 92)) .nil)))) (.node (ob6 P) (.node (Qe P) (.node (Sc P) (.node (Adv P) (lf (Ab0 P)) (lf (g 98))) (.node (Acn P) (lf (Aam P)) (lf (g 114)))) (.node (P7 P) (.node (Abr P) (lf (Zn P)) (lf (g 106))) (.node (X5 P) (lf (g 90)) (lf (g 122))))) (.node (Qf P) (.node (Si P) (.node (Aad P) (lf (Aaz P)) (lf (g 102))) (.node (Z3 P) (lf (g 86)) (lf (g 118)))) (.node (X4 P) (.node (Ael P) (lf (Ab2 P)) (lf (g 110))) (.node (Adp P) (lf (g 94)) .nil))))))
noncomputable def s8(g:Nat→Obj)(P:Params):ST:=⟨ts8 g P,123,2352⟩
noncomputable def Aha:PO:=λP=>dO [ke P z22 165 (vS z56 2360),ke P z13 166 .none,ke P z8 167 .none,ke P z9 168 (.builtin "__main__.__loader__#opaque"),ke P z23 169 .none,ke P z16 170 (.ref 6),ke P z34 171 (.ref 4),ke P z59 173 (vS z0 172),ke P z54 174 .none,ke P z47 275 (.ref 12),ke P z43 288 (.ref 38),ke P z3 304 (.ref 47),ke P z4 317 (.ref 56),ke P z5 331 (.ref 65),ke P z86 393 (.ref 73),ke P z6 400 (.ref 83),ke P z74 2351 (.ref 84),ke P z10 2359 (.ref 129),ki P [69,78,68,77,65,82,75,69,82] 2363 0 2362,ki P [76,80,65,82] 2365 7 2364,ki P [82,80,65,82] 2367 8 2366,ki P [76,83,81,66] 2369 9 2368,ki P [82,83,81,66] 2371 10 2370,ki P [67,79,76,79,78] 2373 11 2372,ki P [67,79,77,77,65] 2375 12 2374,ki P [83,69,77,73] 2377 13 2376,ki P [80,76,85,83] 2379 14 2378,ki P [77,73,78,85,83] 2381 15 2380,ki P [83,84,65,82] 2383 16 2382,ki P [83,76,65,83,72] 2385 17 2384,ki P [86,66,65,82] 2387 18 2386,ki P [65,77,80,69,82] 2389 19 2388,ki P [76,69,83,83] 2391 20 2390,ki P [71,82,69,65,84,69,82] 2393 21 2392,ki P [69,81,85,65,76] 2395 22 2394,ki P [68,79,84] 2397 23 2396,ki P [80,69,82,67,69,78,84] 2399 24 2398,ki P [76,66,82,65,67,69] 2401 25 2400,ki P [82,66,82,65,67,69] 2403 26 2402,ki P [69,81,69,81,85,65,76] 2405 27 2404,ki P [78,79,84,69,81,85,65,76] 2407 28 2406,ki P [76,69,83,83,69,81,85,65,76] 2409 29 2408,ki P Apo 2411 30 2410,ki P [84,73,76,68,69] 2413 31 2412,ki P Ar2 2415 32 2414,ki P [76,69,70,84,83,72,73,70,84] 2417 33 2416,ki P Aul 2419 34 2418,ki P Asv 2421 35 2420,ki P [80,76,85,83,69,81,85,65,76] 2423 36 2422,ki P [77,73,78,69,81,85,65,76] 2425 37 2424,ki P [83,84,65,82,69,81,85,65,76] 2427 38 2426,ki P Avk 2429 39 2428,ki P Asu 2431 40 2430,ki P Auf 2433 41 2432,ki P [86,66,65,82,69,81,85,65,76] 2435 42 2434,ki P Ani 2437 43 2436,ki P Aus 2439 44 2438,ki P Ash 2441 45 2440,ki P Atr 2443 46 2442,ki P Avu 2445 47 2444,ki P z98 2447 48 2446,ki P [65,84] 2449 49 2448,ki P [65,84,69,81,85,65,76] 2451 50 2450,ki P [82,65,82,82,79,87] 2453 51 2452,ki P [69,76,76,73,80,83,73,83] 2455 52 2454,ki P Aon 2457 53 2456,ki P Ao4 2459 54 2458,ki P [78,84,95,79,70,70,83,69,84] 2461 256 2460,ke P z94 2558 (.ref 130)] 69
noncomputable def Ad1:PO:=λ_=>nO [(i0 2),(i0 0),(.ref 37),(i0 6),(i0 0),(.ref 46),(i0 26),(i0 0),(.ref 55),(i0 32),(i0 0),(.ref 64),(i0 54),(i0 0),(.ref 82),(i0 57),(i0 0),(.ref 128)]
noncomputable def Ai8:PO:=λ_=>tO []
noncomputable def Aie:PO:=λ_=>nO []
noncomputable def Ai2:PO:=λ_=>tO [(vS [99,111,100,101] 2355),(vS [114] 2356)]
noncomputable def Aij:PO:=λ_=>tO []
noncomputable def Ait:PO:=λ_=>fQ z10 (st 9)
noncomputable def Aif:PO:=λ_=>cO [(vS z10 2352),(vS z10 2353),(vS z0 2354),(i0 57),(i0 1),(i0 0),(i0 0),(i0 3),(.ref 123),(.bool true),(i0 276),(.ref 124),.none,(.ref 125),(.ref 126),(.ref 127),(i0 2357),(i0 57),(vS z0 2358)]
noncomputable def Kx:PO:=λ_=>fO (.type "function") z10 z10 (st 9) 3 .none .none .none (vS z24 332) (.ref 128) .none 0
noncomputable def Wg:PO:=λP=>dO [ki P [33] 2462 54 2458,ki P [33,61] 2464 28 2406,ki P [37] 2466 24 2398,ki P [37,61] 2468 40 2430,ki P [38] 2470 19 2388,ki P [38,61] 2472 41 2432,ki P [40] 2474 7 2364,ki P [41] 2476 8 2366,ki P [42] 2478 16 2382,ki P [42,42] 2480 35 2420,ki P [42,42,61] 2482 46 2442,ki P [42,61] 2484 38 2426,ki P [43] 2486 14 2378,ki P [43,61] 2488 36 2422,ki P [44] 2490 12 2374,ki P [45] 2492 15 2380,ki P [45,61] 2494 37 2424,ki P [45,62] 2496 51 2452,ki P [46] 2498 23 2396,ki P [46,46,46] 2500 52 2454,ki P [47] 2502 17 2384,ki P [47,47] 2504 47 2444,ki P [47,47,61] 2506 48 2446,ki P [47,61] 2508 39 2428,ki P [58] 2510 11 2372,ki P [58,61] 2512 53 2456,ki P [59] 2514 13 2376,ki P [60] 2516 20 2390,ki P [60,60] 2518 33 2416,ki P [60,60,61] 2520 44 2438,ki P [60,61] 2522 29 2408,ki P [61] 2524 22 2394,ki P [61,61] 2526 27 2404,ki P [62] 2528 21 2392,ki P [62,61] 2530 30 2410,ki P [62,62] 2531 34 2418,ki P [62,62,61] 2532 45 2440,ki P [64] 2533 49 2448,ki P [64,61] 2534 50 2450,ki P [91] 2535 9 2368,ki P [93] 2536 10 2370,ki P [94] 2537 32 2414,ki P [94,61] 2538 43 2436,ki P [123] 2539 25 2400,ki P [124] 2540 18 2386,ki P [124,61] 2541 42 2434,ki P [125] 2542 26 2402,ki P [126] 2543 31 2412] 48
noncomputable def Aiw:PO:=λP=>dO [ki P [45,62] 2496 51 2452,ki P [46] 2498 23 2396,ki P [46,46,46] 2500 52 2454,ki P [47] 2502 17 2384,ki P [47,47] 2504 47 2444,ki P [47,47,61] 2506 48 2446,ki P [47,61] 2508 39 2428,ki P [58] 2510 11 2372,ki P [58,61] 2512 53 2456,ki P [59] 2514 13 2376,ki P [60] 2516 20 2390,ki P [60,60] 2518 33 2416,ki P [60,60,61] 2520 44 2438,ki P [60,61] 2522 29 2408,ki P [61] 2524 22 2394,ki P [61,61] 2526 27 2404,ki P [62] 2528 21 2392] 17
noncomputable def Ail:PO:=λP=>dO [ki P [62,61] 2530 30 2410,ki P [62,62] 2531 34 2418,ki P [62,62,61] 2532 45 2440,ki P [64] 2533 49 2448,ki P [64,61] 2534 50 2450,ki P [91] 2535 9 2368,ki P [93] 2536 10 2370,ki P [94] 2537 32 2414,ki P [94,61] 2538 43 2436,ki P [123] 2539 25 2400,ki P [124] 2540 18 2386,ki P [124,61] 2541 42 2434,ki P [125] 2542 26 2402,ki P [126] 2543 31 2412] 14
noncomputable def Axq(g:Nat→Obj)(P:Params):BT:=(.node (ob0 P) (.node (ob1 P) (.node (Aha P) (.node (ob7 P) (.node (R5 P) (.node (Yb P) (.node (Abe P) (lf (Ait P)) .nil) (lf (g 95))) (.node (Pk P) (lf (Acr P)) (lf (g 111)))) (.node (R8 P) (.node (Xu P) (lf (Ad7 P)) (lf (g 103))) (.node (Aej P) (lf (g 87)) (lf (g 119))))) (.node (Gb P) (.node (Sj P) (.node (Ad6 P) (.node (Z2 P) (lf (Aiw P)) .nil) (lf (g 99))) (.node (Abq P) (lf (Mm P)) (lf (g 115)))) (.node (Qv P) (.node (Zs P) (lf (Zx P)) (lf (g 107))) (.node (Z7 P) (lf (g 91)) (lf (Ai8 P)))))) (.node (ob5 P) (.node (ob9 P) (.node (Sw P) (.node (Adk P) (.node (Ow P) (lf (Kx P)) .nil) (lf (g 97))) (.node (Y4 P) (lf (Aec P)) (lf (g 113)))) (.node (Ry P) (.node (Aa2 P) (lf (Up P)) (lf (g 105))) (.node (Zd P) (lf (g 89)) (lf (g 121))))) (.node (Rg P) (.node (Sp P) (.node (Acy P) (lf (Acx P)) (lf (g 101))) (.node (Aaw P) (lf (g 85)) (lf (g 117)))) (.node (Ad1 P) (.node (Ada P) (lf (Ad3 P)) (lf (g 109))) (.node (Ad2 P) (lf (g 93)) (lf (Ai2 P))))))) (.node (ob2 P) (.node (ob4 P) (.node (ob8 P) (.node (Rw P) (.node (Aa1 P) (.node (Adu P) (lf (Aif P)) .nil) (lf (g 96))) (.node (Zg P) (lf (Z8 P)) (lf (g 112)))) (.node (Sb P) (.node (Xa P) (lf (Aaf P)) (lf (g 104))) (.node (Py P) (lf (g 88)) (lf (g 120))))) (.node (Ru P) (.node (Ss P) (.node (Aep P) (.node (Adq P) (lf (Ail P)) .nil) (lf (g 100))) (.node (Aag P) (lf (g 84)) (lf (g 116)))) (.node (Xo P) (.node (Abw P) (lf (Z6 P)) (lf (g 108))) (.node (Aeo P) (lf (g 92)) (lf (Aie P)))))) (.node (ob6 P) (.node (Qe P) (.node (Sc P) (.node (Adv P) (.node (Ab0 P) (lf (Wg P)) .nil) (lf (g 98))) (.node (Acn P) (lf (Aam P)) (lf (g 114)))) (.node (P7 P) (.node (Abr P) (lf (Zn P)) (lf (g 106))) (.node (X5 P) (lf (g 90)) (lf (g 122))))) (.node (Qf P) (.node (Si P) (.node (Aad P) (lf (Aaz P)) (lf (g 102))) (.node (Z3 P) (lf (g 86)) (lf (g 118)))) (.node (X4 P) (.node (Ael P) (lf (Ab2 P)) (lf (g 110))) (.node (Adp P) (lf (g 94)) (lf (Aij P))))))))
noncomputable def s61(g:Nat→Obj)(P:Params):ST:=⟨Axq g P,133,2559⟩
noncomputable def Aet:PO:=λP=>dO [ke P z22 165 (vS z2 2843),ke P z13 166 .none,ke P z8 167 .none,ke P z9 168 (.builtin "__main__.__loader__#opaque"),ke P z23 169 .none,ke P z16 170 (.ref 6),ke P z34 171 (.ref 4),ke P z59 173 (vS z0 172),ke P z54 174 .none,ke P z47 275 (.ref 12),ke P z43 288 (.ref 38),ke P z3 304 (.ref 47),ke P z4 317 (.ref 56),ke P z5 331 (.ref 65),ke P z86 393 (.ref 73),ke P z6 400 (.ref 83),ke P z74 2351 (.ref 84),ke P z10 2359 (.ref 129),ki P [69,78,68,77,65,82,75,69,82] 2363 0 2362,ki P [76,80,65,82] 2365 7 2364,ki P [82,80,65,82] 2367 8 2366,ki P [76,83,81,66] 2369 9 2368,ki P [82,83,81,66] 2371 10 2370,ki P [67,79,76,79,78] 2373 11 2372,ki P [67,79,77,77,65] 2375 12 2374,ki P [83,69,77,73] 2377 13 2376,ki P [80,76,85,83] 2379 14 2378,ki P [77,73,78,85,83] 2381 15 2380,ki P [83,84,65,82] 2383 16 2382,ki P [83,76,65,83,72] 2385 17 2384,ki P [86,66,65,82] 2387 18 2386,ki P [65,77,80,69,82] 2389 19 2388,ki P [76,69,83,83] 2391 20 2390,ki P [71,82,69,65,84,69,82] 2393 21 2392,ki P [69,81,85,65,76] 2395 22 2394,ki P [68,79,84] 2397 23 2396,ki P [80,69,82,67,69,78,84] 2399 24 2398,ki P [76,66,82,65,67,69] 2401 25 2400,ki P [82,66,82,65,67,69] 2403 26 2402,ki P [69,81,69,81,85,65,76] 2405 27 2404,ki P [78,79,84,69,81,85,65,76] 2407 28 2406,ki P [76,69,83,83,69,81,85,65,76] 2409 29 2408,ki P Apo 2411 30 2410,ki P [84,73,76,68,69] 2413 31 2412,ki P Ar2 2415 32 2414,ki P [76,69,70,84,83,72,73,70,84] 2417 33 2416,ki P Aul 2419 34 2418,ki P Asv 2421 35 2420,ki P [80,76,85,83,69,81,85,65,76] 2423 36 2422,ki P [77,73,78,69,81,85,65,76] 2425 37 2424,ki P [83,84,65,82,69,81,85,65,76] 2427 38 2426,ki P Avk 2429 39 2428,ki P Asu 2431 40 2430,ki P Auf 2433 41 2432,ki P [86,66,65,82,69,81,85,65,76] 2435 42 2434,ki P Ani 2437 43 2436,ki P Aus 2439 44 2438,ki P Ash 2441 45 2440,ki P Atr 2443 46 2442,ki P Avu 2445 47 2444,ki P z98 2447 48 2446,ki P [65,84] 2449 49 2448,ki P [65,84,69,81,85,65,76] 2451 50 2450,ki P [82,65,82,82,79,87] 2453 51 2452,ki P [69,76,76,73,80,83,73,83] 2455 52 2454,ki P Aon 2457 53 2456,ki P Ao4 2459 54 2458,ki P [78,84,95,79,70,70,83,69,84] 2461 256 2460,ke P z94 2558 (.ref 130),ke P z42 2565 (.ref 139),ke P z20 2572 (.ref 146),ke P z82 2579 (.ref 153),ke P [116,115,112,101,99,105,97,108,115] 2615 (.ref 158),ke P [95,110,97,109,101,95,100,105,115,97,108,108,111,119,101,100,95,114,101] 2641 (.ref 163),ke P [95,118,97,108,117,101,95,100,105,115,97,108,108,111,119,101,100,95,114,101] 2675 (.ref 168),ke P z15 2685 (.ref 176),ke P z30 2842 (.ref 297),ke P z11 2851 (.ref 308),ke P z32 2868 (.ref 315),ke P z25 2876 (.ref 322),ke P z26 2885 (.ref 329),ke P z12 2894 (.ref 336),ke P z18 2904 (.ref 343),ke P z33 2914 (.ref 350),ke P z27 2928 (.ref 357),ke P z28 2941 (.ref 364),ke P z21 2959 (.ref 371),ke P z29 2965 (.ref 376),ke P z88 2971 (.ref 381)] 89
noncomputable def Ad4:PO:=λ_=>nO [(i0 2),(i0 0),(.ref 37),(i0 6),(i0 0),(.ref 46),(i0 26),(i0 0),(.ref 55),(i0 32),(i0 0),(.ref 64),(i0 54),(i0 0),(.ref 82),(i0 57),(i0 0),(.ref 128),(i0 114),(i0 0),(.ref 138),(i0 116),(i0 0),(.ref 145),(i0 118),(i0 0),(.ref 152),(i0 124),(i0 0),(.ref 175),(i0 133),(i0 0),(.ref 182),(i0 216),(i0 0),(.ref 307),(i0 220),(i0 0),(.ref 314),(i0 233),(i0 0),(.ref 321),(i0 238),(i0 0),(.ref 328),(i0 252),(i0 0),(.ref 335),(i0 258),(i0 0),(.ref 342),(i0 271),(i0 0),(.ref 349),(i0 279),(i0 0),(.ref 356),(i0 301),(i0 0),(.ref 363),(i0 314),(i0 0),(.ref 370),(i0 336),(i0 0),(.ref 375),(i0 376),(i0 0),(.ref 380)]
noncomputable def Asa:PO:=λ_=>tO []
noncomputable def Aqq:PO:=λ_=>nO []
noncomputable def Aoc:PO:=λ_=>tO [(vS [120] 2562)]
noncomputable def Auv:PO:=λ_=>tO []
noncomputable def Aur:PO:=λ_=>fQ z42 (st 62)
noncomputable def At5:PO:=λ_=>cO [(vS z42 2559),(vS z42 2560),(vS z0 2561),(i0 114),(i0 1),(i0 0),(i0 0),(i0 3),(.ref 133),(.bool true),(i0 276),(.ref 134),.none,(.ref 135),(.ref 136),(.ref 137),(i0 2563),(i0 114),(vS z0 2564)]
noncomputable def Nk:PO:=λ_=>fO (.type "function") z42 z42 (st 62) 3 .none .none .none (vS z56 2360) (.ref 138) .none 0
noncomputable def At3:PO:=λ_=>tO []
noncomputable def Auy:PO:=λ_=>nO []
noncomputable def As1:PO:=λ_=>tO [(vS [120] 2569)]
noncomputable def Aqr:PO:=λ_=>tO []
noncomputable def Asb:PO:=λ_=>fQ z20 (st 63)
noncomputable def Aq7:PO:=λ_=>cO [(vS z20 2566),(vS z20 2567),(vS z0 2568),(i0 116),(i0 1),(i0 0),(i0 0),(i0 3),(.ref 140),(.bool true),(i0 276),(.ref 141),.none,(.ref 142),(.ref 143),(.ref 144),(i0 2570),(i0 116),(vS z0 2571)]
noncomputable def Nv:PO:=λ_=>fO (.type "function") z20 z20 (st 63) 3 .none .none .none (vS z56 2360) (.ref 145) .none 0
noncomputable def Any:PO:=λ_=>tO []
noncomputable def Ar7:PO:=λ_=>nO []
noncomputable def Arv:PO:=λ_=>tO [(vS [120] 2576)]
noncomputable def Arf:PO:=λ_=>tO []
noncomputable def Auk:PO:=λ_=>fQ z82 (st 64)
noncomputable def Apa:PO:=λ_=>cO [(vS z82 2573),(vS z82 2574),(vS z0 2575),(i0 118),(i0 1),(i0 0),(i0 0),(i0 3),(.ref 147),(.bool true),(i0 276),(.ref 148),.none,(.ref 149),(.ref 150),(.ref 151),(i0 2577),(i0 118),(vS z0 2578)]
noncomputable def M5:PO:=λ_=>fO (.type "function") z82 z82 (st 64) 3 .none .none .none (vS z56 2360) (.ref 152) .none 0
noncomputable def Aua:PO:=λ_=>⟨(.type "list"),none,(.seq ⟨[(.int 14 2585),(.int 14 2586),(.int 4 2587),(.int 1 2588),(.int 1 2589),(.int 9 2590),(.int 0 2591),(.int 4227896069 2592),(.int 939524097 2593),(.int 0 2594),(.int 0 2595),(.int 0 2596),(.int 0 2597),(.int 0 2598),(.int 0 2599),(.int 13 2600),(.int 11 2601),(.int 9 2602),(.int 0 2603),(.int 4227896069 2604),(.int 939524097 2605),(.int 0 2606),(.int 0 2607),(.int 0 2608),(.int 0 2609),(.int 0 2610),(.int 0 2611),(.int 1 2612)]⟩ 0),⟨[]⟩⟩
noncomputable def Anw:PO:=λ_=>dO [] 0
noncomputable def Ark:PO:=λ_=>tO [.none]
noncomputable def Ap8:PO:=λ_=>tO [(i0 14),(i0 14),(i0 4),(i0 1),(i0 1),(i0 9),(i0 0),(i0 4227896069),(i0 939524097),(i0 0),(i0 0),(i0 0),(i0 0),(i0 0),(i0 0),(i0 13),(i0 11),(i0 9),(i0 0),(i0 4227896069),(i0 939524097),(i0 0),(i0 0),(i0 0),(i0 0),(i0 0),(i0 0),(i0 1)]
noncomputable def Aok:PO:=λ_=>⟨(.type "re.Pattern"),none,(.fields ⟨[(vS [91,32,92,40,92,41,60,62,64,44,59,58,92,92,34,47,92,91,92,93,92,63,61,93] 2583),(.int 32 2614),(i0 0),.none,.none,(.ref 157),(i0 0)]⟩),⟨[]⟩⟩
noncomputable def Anr:PO:=λ_=>⟨(.type "list"),none,(.seq ⟨[(.int 14 2619),(.int 10 2620),(.int 4 2621),(.int 1 2622),(.int 1 2623),(.int 22 2624),(.int 0 2625),(.int 31 2626),(.int 16 2627),(.int 127 2628),(.int 0 2629),(.int 13 2630),(.int 7 2631),(.int 22 2632),(.int 0 2633),(.int 31 2634),(.int 16 2635),(.int 127 2636),(.int 0 2637),(.int 1 2638)]⟩ 0),⟨[]⟩⟩
noncomputable def Aox:PO:=λ_=>dO [] 0
noncomputable def Atu:PO:=λ_=>tO [.none]
noncomputable def Ajf:PO:=λ_=>tO [(i0 14),(i0 10),(i0 4),(i0 1),(i0 1),(i0 22),(i0 0),(i0 31),(i0 16),(i0 127),(i0 0),(i0 13),(i0 7),(i0 22),(i0 0),(i0 31),(i0 16),(i0 127),(i0 0),(i0 1)]
noncomputable def Air:PO:=λ_=>⟨(.type "re.Pattern"),none,(.fields ⟨[(vS [91,92,120,48,48,45,92,120,49,70,92,120,55,70,93] 2617),(.int 32 2640),(i0 0),.none,.none,(.ref 162),(i0 0)]⟩),⟨[]⟩⟩
noncomputable def Aq4:PO:=λ_=>⟨(.type "list"),none,(.seq ⟨[(.int 14 2645),(.int 14 2646),(.int 4 2647),(.int 1 2648),(.int 1 2649),(.int 9 2650),(.int 4294966783 2651),(.int 0 2652),(.int 0 2653),(.int 2147483648 2654),(.int 0 2655),(.int 0 2656),(.int 0 2657),(.int 0 2658),(.int 0 2659),(.int 13 2660),(.int 11 2661),(.int 9 2662),(.int 4294966783 2663),(.int 0 2664),(.int 0 2665),(.int 2147483648 2666),(.int 0 2667),(.int 0 2668),(.int 0 2669),(.int 0 2670),(.int 0 2671),(.int 1 2672)]⟩ 0),⟨[]⟩⟩
noncomputable def Asc:PO:=λ_=>dO [] 0
noncomputable def Ats:PO:=λ_=>tO [.none]
noncomputable def Aio:PO:=λ_=>tO [(i0 14),(i0 14),(i0 4),(i0 1),(i0 1),(i0 9),(i0 4294966783),(i0 0),(i0 0),(i0 2147483648),(i0 0),(i0 0),(i0 0),(i0 0),(i0 0),(i0 13),(i0 11),(i0 9),(i0 4294966783),(i0 0),(i0 0),(i0 2147483648),(i0 0),(i0 0),(i0 0),(i0 0),(i0 0),(i0 1)]
noncomputable def Ai0:PO:=λ_=>⟨(.type "re.Pattern"),none,(.fields ⟨[(vS [91,92,120,48,48,45,92,120,48,56,92,120,48,65,45,92,120,49,70,92,120,55,70,93] 2643),(.int 32 2674),(i0 0),.none,.none,(.ref 167),(i0 0)]⟩),⟨[]⟩⟩
noncomputable def Aqf:PO:=λ_=>tO [.none,(.int 1 2676)]
noncomputable def Auu:PO:=λ_=>tO []
noncomputable def Ap7:PO:=λ_=>nO []
noncomputable def Arh:PO:=λ_=>tO [(vS [112,97,114,97,109] 2680),(vS Aj1 2681),(vS [113,117,111,116,101] 2682)]
noncomputable def Asl:PO:=λ_=>tO []
noncomputable def Ao1:PO:=λ_=>fQ z15 (st 69)
noncomputable def Avx:PO:=λ_=>cO [(vS z15 2677),(vS z15 2678),(vS z0 2679),(i0 124),(i0 3),(i0 0),(i0 0),(i0 3),(.ref 170),(.bool true),(i0 276),(.ref 171),.none,(.ref 172),(.ref 173),(.ref 174),(i0 2683),(i0 124),(vS z0 2684)]
noncomputable def Apu:PO:=λ_=>fO (.type "function") z15 z15 (st 69) 3 (.ref 169) .none .none (vS z1 2580) (.ref 175) .none 0
noncomputable def Aoi:PO:=λ_=>tO []
noncomputable def Av4:PO:=λ_=>⟨(.type "builtin_function_or_method"),none,(.fields ⟨[(.builtin "type.__prepare__"),(.type "type")]⟩),⟨[]⟩⟩
noncomputable def Asq:PO:=λP=>dO [ke P z65 2693 (vS z1 2580),ke P [95,95,113,117,97,108,110,97,109,101,95,95] 2695 (vS z30 2694),ki P z37 2697 133 2696,ke P z45 2707 (.ref 191),ke P z7 2717 (.ref 198),ke P z70 2724 (.ref 205),ke P z38 2733 (.ref 212),ke P z39 2739 (.ref 217),ke P z40 2747 (.ref 224),ke P z36 2755 (.ref 231),ke P z66 2761 (.ref 236),ke P z95 2772 (.ref 244),ke P z84 2778 (.ref 249),ke P z76 2784 (.ref 254),ke P z80 2791 (.ref 261),ke P z46 2798 (.ref 268),ke P z71 2804 (.ref 273),ke P z57 2811 (.ref 280),ke P z41 2820 (.ref 287),ke P z44 2833 (.ref 294),ke P z14 2835 (.ref 295)] 21
noncomputable def Au3:PO:=λ_=>tO []
noncomputable def Aoh:PO:=λ_=>nO [(i0 135),(i0 4),(.ref 190),(i0 145),(i0 4),(.ref 197),(i0 153),(i0 4),(.ref 204),(i0 156),(i0 4),(.ref 211),(i0 160),(i0 4),(.ref 216),(i0 164),(i0 4),(.ref 223),(i0 167),(i0 4),(.ref 230),(i0 170),(i0 4),(.ref 235),(i0 174),(i0 4),(.ref 243),(i0 181),(i0 4),(.ref 248),(i0 184),(i0 4),(.ref 253),(i0 187),(i0 4),(.ref 260),(i0 190),(i0 4),(.ref 267),(i0 193),(i0 4),(.ref 272),(i0 196),(i0 4),(.ref 279),(i0 199),(i0 4),(.ref 286),(i0 202),(i0 4),(.ref 293)]
noncomputable def Avn:PO:=λ_=>cO [(vS z30 2688),(vS z30 2689),(vS z0 2690),(i0 133),(i0 0),(i0 0),(i0 0),(i0 0),(.ref 180),(.bool false),(i0 276),(.ref 181),.none,.none,.none,.none,(i0 2691),(i0 133),(vS z0 2692)]
noncomputable def Avv:PO:=λ_=>⟨(.type "frame"),none,.plain,⟨[(some (.ref 182)),(some (.ref 3)),(some (.ref 179)),none,(some (vS z1 2580)),none,(some (.ref 0))]⟩⟩
noncomputable def Aik:PO:=λ_=>tO [.none]
noncomputable def Aup:PO:=λ_=>tO []
noncomputable def Au4:PO:=λ_=>nO []
noncomputable def Apj:PO:=λ_=>tO [(vS Zl 2701),(vS [104,101,97,100,101,114,115] 2702),(vS [107] 2703),(vS [118] 2704)]
noncomputable def Arc:PO:=λ_=>tO []
noncomputable def Atd:PO:=λ_=>fO .none z45 z60 (Fg 70 0) 0 .none .none .none .none .none .none 0
noncomputable def Auw:PO:=λ_=>cO [(vS z45 2698),(vS z60 2699),(vS z0 2700),(i0 135),(i0 2),(i0 0),(i0 0),(i0 3),(.ref 185),(.bool true),(i0 276),(.ref 186),.none,(.ref 187),(.ref 188),(.ref 189),(i0 2705),(i0 135),(vS z0 2706)]
noncomputable def Mz:PO:=λ_=>fO (.type "function") z45 z60 (Fg 70 0) 3 (.ref 184) .none .none (vS z1 2580) (.ref 190) .none 0
noncomputable def Awp:PO:=λ_=>tO []
noncomputable def Atg:PO:=λ_=>nO []
noncomputable def At1:PO:=λ_=>tO [(vS Zl 2711),(vS Aj1 2712),(vS z63 2713),(vS [114,101,103,101,120] 2714)]
noncomputable def Aqd:PO:=λ_=>tO []
noncomputable def Ard:PO:=λ_=>fO .none z7 z17 (Fg 70 1) 0 .none .none .none .none .none .none 0
noncomputable def Atl:PO:=λ_=>cO [(vS z7 2708),(vS z17 2709),(vS z0 2710),(i0 145),(i0 2),(i0 0),(i0 1),(i0 3),(.ref 192),(.bool true),(i0 276),(.ref 193),.none,(.ref 194),(.ref 195),(.ref 196),(i0 2715),(i0 145),(vS z0 2716)]
noncomputable def N7:PO:=λ_=>fO (.type "function") z7 z17 (Fg 70 1) 3 .none .none .none (vS z1 2580) (.ref 197) .none 0
noncomputable def Apl:PO:=λ_=>tO []
noncomputable def Awa:PO:=λ_=>nO []
noncomputable def As7:PO:=λ_=>tO [(vS Zl 2721)]
noncomputable def Ave:PO:=λ_=>tO []
noncomputable def Arp:PO:=λ_=>fO .none z70 z67 (Fg 70 2) 0 .none .none .none .none .none .none 0
noncomputable def Awr:PO:=λ_=>cO [(vS z70 2718),(vS z67 2719),(vS z0 2720),(i0 153),(i0 1),(i0 0),(i0 0),(i0 3),(.ref 199),(.bool true),(i0 276),(.ref 200),.none,(.ref 201),(.ref 202),(.ref 203),(i0 2722),(i0 153),(vS z0 2723)]
noncomputable def Aue:PO:=λ_=>fO (.type "function") z70 z67 (Fg 70 2) 3 .none .none .none (vS z1 2580) (.ref 204) .none 0
noncomputable def Aun:PO:=λ_=>tO []
noncomputable def Awn:PO:=λ_=>nO []
noncomputable def Ata:PO:=λ_=>tO [(vS Zl 2728),(vS z63 2729),(vS [118,97,108] 2730)]
noncomputable def Apm:PO:=λ_=>tO []
noncomputable def Au6:PO:=λ_=>fO .none z38 z50 (Fg 70 3) 0 .none .none .none .none .none .none 0
noncomputable def Aqx:PO:=λ_=>cO [(vS z38 2725),(vS z50 2726),(vS z0 2727),(i0 156),(i0 3),(i0 0),(i0 0),(i0 3),(.ref 206),(.bool true),(i0 276),(.ref 207),.none,(.ref 208),(.ref 209),(.ref 210),(i0 2731),(i0 156),(vS z0 2732)]
noncomputable def An0:PO:=λ_=>fO (.type "function") z38 z50 (Fg 70 3) 3 .none .none .none (vS z1 2580) (.ref 211) .none 0
noncomputable def Atx:PO:=λ_=>tO []
noncomputable def Avs:PO:=λ_=>nO []
noncomputable def Apy:PO:=λ_=>fO .none z39 z51 (Fg 70 4) 0 .none .none .none .none .none .none 0
noncomputable def Awj:PO:=λ_=>cO [(vS z39 2734),(vS z51 2735),(vS z0 2736),(i0 160),(i0 2),(i0 0),(i0 0),(i0 3),(.ref 213),(.bool true),(i0 276),(.ref 214),.none,.none,.none,(.ref 215),(i0 2737),(i0 160),(vS z0 2738)]
noncomputable def Av0:PO:=λ_=>fO (.type "function") z39 z51 (Fg 70 4) 3 .none .none .none (vS z1 2580) (.ref 216) .none 0
noncomputable def Av1:PO:=λ_=>tO []
noncomputable def Apr:PO:=λ_=>nO []
noncomputable def Anl:PO:=λ_=>tO [(vS Zl 2743),(vS z63 2744)]
noncomputable def An6:PO:=λ_=>tO []
noncomputable def Ank:PO:=λ_=>fO .none z40 z52 (Fg 70 5) 0 .none .none .none .none .none .none 0
noncomputable def Av8:PO:=λ_=>cO [(vS z40 2740),(vS z52 2741),(vS z0 2742),(i0 164),(i0 2),(i0 0),(i0 0),(i0 3),(.ref 218),(.bool true),(i0 276),(.ref 219),.none,(.ref 220),(.ref 221),(.ref 222),(i0 2745),(i0 164),(vS z0 2746)]
noncomputable def Atc:PO:=λ_=>fO (.type "function") z40 z52 (Fg 70 5) 3 .none .none .none (vS z1 2580) (.ref 223) .none 0
noncomputable def Atm:PO:=λ_=>tO []
noncomputable def Ao8:PO:=λ_=>nO []
noncomputable def An8:PO:=λ_=>tO [(vS Zl 2751),(vS z63 2752)]
noncomputable def Aqk:PO:=λ_=>tO []
noncomputable def Aqo:PO:=λ_=>fO .none z36 z48 (Fg 70 6) 0 .none .none .none .none .none .none 0
noncomputable def Avg:PO:=λ_=>cO [(vS z36 2748),(vS z48 2749),(vS z0 2750),(i0 167),(i0 2),(i0 0),(i0 0),(i0 3),(.ref 225),(.bool true),(i0 276),(.ref 226),.none,(.ref 227),(.ref 228),(.ref 229),(i0 2753),(i0 167),(vS z0 2754)]
noncomputable def Ari:PO:=λ_=>fO (.type "function") z36 z48 (Fg 70 6) 3 .none .none .none (vS z1 2580) (.ref 230) .none 0
noncomputable def Anq:PO:=λ_=>tO []
noncomputable def Aqu:PO:=λ_=>nO []
noncomputable def Ar8:PO:=λ_=>fO .none z66 z64 (Fg 70 7) 0 .none .none .none .none .none .none 0
noncomputable def Au7:PO:=λ_=>cO [(vS z66 2756),(vS z64 2757),(vS z0 2758),(i0 170),(i0 2),(i0 0),(i0 0),(i0 3),(.ref 232),(.bool true),(i0 276),(.ref 233),.none,.none,.none,(.ref 234),(i0 2759),(i0 170),(vS z0 2760)]
noncomputable def Oa:PO:=λ_=>fO (.type "function") z66 z64 (Fg 70 7) 3 .none .none .none (vS z1 2580) (.ref 235) .none 0
noncomputable def Aq1:PO:=λ_=>tO [.none]
noncomputable def Apk:PO:=λ_=>tO []
noncomputable def Aq9:PO:=λ_=>nO []
noncomputable def Ar0:PO:=λ_=>tO [(vS Zl 2765),(vS z63 2766),(vS [100,101,102,97,117,108,116] 2767),(vS [107] 2768),(vS [118] 2769)]
noncomputable def Aso:PO:=λ_=>tO []
noncomputable def Asd:PO:=λ_=>fO .none z95 z81 (Fg 70 8) 0 .none .none .none .none .none .none 0
noncomputable def Aqh:PO:=λ_=>cO [(vS z95 2762),(vS z81 2763),(vS z0 2764),(i0 174),(i0 3),(i0 0),(i0 0),(i0 3),(.ref 238),(.bool true),(i0 276),(.ref 239),.none,(.ref 240),(.ref 241),(.ref 242),(i0 2770),(i0 174),(vS z0 2771)]
noncomputable def Arx:PO:=λ_=>fO (.type "function") z95 z81 (Fg 70 8) 3 (.ref 237) .none .none (vS z1 2580) (.ref 243) .none 0
noncomputable def Ano:PO:=λ_=>tO []
noncomputable def Asy:PO:=λ_=>nO []
noncomputable def Anj:PO:=λ_=>fO .none z84 z79 (Fg 70 9) 0 .none .none .none .none .none .none 0
noncomputable def Ate:PO:=λ_=>cO [(vS z84 2773),(vS z79 2774),(vS z0 2775),(i0 181),(i0 1),(i0 0),(i0 0),(i0 3),(.ref 245),(.bool true),(i0 276),(.ref 246),.none,.none,.none,(.ref 247),(i0 2776),(i0 181),(vS z0 2777)]
noncomputable def Avh:PO:=λ_=>fO (.type "function") z84 z79 (Fg 70 9) 3 .none .none .none (vS z1 2580) (.ref 248) .none 0
noncomputable def As5:PO:=λ_=>tO []
noncomputable def Aug:PO:=λ_=>nO []
noncomputable def Ar1:PO:=λ_=>fO .none z76 z69 (Fg 70 10) 0 .none .none .none .none .none .none 0
noncomputable def Awf:PO:=λ_=>cO [(vS z76 2779),(vS z69 2780),(vS z0 2781),(i0 184),(i0 1),(i0 0),(i0 0),(i0 3),(.ref 250),(.bool true),(i0 276),(.ref 251),.none,.none,.none,(.ref 252),(i0 2782),(i0 184),(vS z0 2783)]
noncomputable def Au9:PO:=λ_=>fO (.type "function") z76 z69 (Fg 70 10) 3 .none .none .none (vS z1 2580) (.ref 253) .none 0
noncomputable def Atw:PO:=λ_=>tO []
noncomputable def Av7:PO:=λ_=>nO []
noncomputable def Asp:PO:=λ_=>tO [(vS Zl 2788)]
noncomputable def Aru:PO:=λ_=>tO []
noncomputable def Auq:PO:=λ_=>fO .none z80 z72 (Fg 70 11) 0 .none .none .none .none .none .none 0
noncomputable def Asr:PO:=λ_=>cO [(vS z80 2785),(vS z72 2786),(vS z0 2787),(i0 187),(i0 1),(i0 0),(i0 0),(i0 3),(.ref 255),(.bool true),(i0 276),(.ref 256),.none,(.ref 257),(.ref 258),(.ref 259),(i0 2789),(i0 187),(vS z0 2790)]
noncomputable def Aro:PO:=λ_=>fO (.type "function") z80 z72 (Fg 70 11) 3 .none .none .none (vS z1 2580) (.ref 260) .none 0
noncomputable def Aof:PO:=λ_=>tO []
noncomputable def Awe:PO:=λ_=>nO []
noncomputable def Aqn:PO:=λ_=>tO [(vS Zl 2795)]
noncomputable def At9:PO:=λ_=>tO []
noncomputable def Aol:PO:=λ_=>fO .none z46 z61 (Fg 70 12) 0 .none .none .none .none .none .none 0
noncomputable def Aty:PO:=λ_=>cO [(vS z46 2792),(vS z61 2793),(vS z0 2794),(i0 190),(i0 1),(i0 0),(i0 0),(i0 3),(.ref 262),(.bool true),(i0 276),(.ref 263),.none,(.ref 264),(.ref 265),(.ref 266),(i0 2796),(i0 190),(vS z0 2797)]
noncomputable def Aop:PO:=λ_=>fO (.type "function") z46 z61 (Fg 70 12) 3 .none .none .none (vS z1 2580) (.ref 267) .none 0
noncomputable def Ao6:PO:=λ_=>tO []
noncomputable def Att:PO:=λ_=>nO []
noncomputable def Aum:PO:=λ_=>fO .none z71 z68 (Fg 70 13) 0 .none .none .none .none .none .none 0
noncomputable def Aom:PO:=λ_=>cO [(vS z71 2799),(vS z68 2800),(vS z0 2801),(i0 193),(i0 1),(i0 0),(i0 0),(i0 3),(.ref 269),(.bool true),(i0 276),(.ref 270),.none,.none,.none,(.ref 271),(i0 2802),(i0 193),(vS z0 2803)]
noncomputable def App:PO:=λ_=>fO (.type "function") z71 z68 (Fg 70 13) 3 .none .none .none (vS z1 2580) (.ref 272) .none 0
noncomputable def At8:PO:=λ_=>tO []
noncomputable def Arb:PO:=λ_=>nO []
noncomputable def Are:PO:=λ_=>tO [(vS Zl 2808)]
noncomputable def Awc:PO:=λ_=>tO []
noncomputable def Aq6:PO:=λ_=>fO .none z57 z58 (Fg 70 14) 0 .none .none .none .none .none .none 0
noncomputable def Aoa:PO:=λ_=>cO [(vS z57 2805),(vS z58 2806),(vS z0 2807),(i0 196),(i0 1),(i0 0),(i0 0),(i0 3),(.ref 274),(.bool true),(i0 276),(.ref 275),.none,(.ref 276),(.ref 277),(.ref 278),(i0 2809),(i0 196),(vS z0 2810)]
noncomputable def Apb:PO:=λ_=>fO (.type "function") z57 z58 (Fg 70 14) 3 .none .none .none (vS z1 2580) (.ref 279) .none 0
noncomputable def Apg:PO:=λ_=>tO []
noncomputable def Anm:PO:=λ_=>nO []
noncomputable def Av2:PO:=λ_=>tO [(vS Zl 2815),(vS z63 2816),(vS Aj1 2817)]
noncomputable def Ap6:PO:=λ_=>tO []
noncomputable def Auh:PO:=λ_=>fO .none z41 z53 (Fg 70 15) 0 .none .none .none .none .none .none 0
noncomputable def Aow:PO:=λ_=>cO [(vS z41 2812),(vS z53 2813),(vS z0 2814),(i0 199),(i0 3),(i0 0),(i0 0),(i0 3),(.ref 281),(.bool true),(i0 276),(.ref 282),.none,(.ref 283),(.ref 284),(.ref 285),(i0 2818),(i0 199),(vS z0 2819)]
noncomputable def An2:PO:=λ_=>fO (.type "function") z41 z53 (Fg 70 15) 3 .none .none .none (vS z1 2580) (.ref 286) .none 0
noncomputable def Avr:PO:=λ_=>tO []
noncomputable def As3:PO:=λ_=>nO []
noncomputable def Avb:PO:=λ_=>tO [(vS Zl 2824),(vS [95,110,97,109,101] 2825),(vS [95,118,97,108,117,101] 2826),(vS [95,112,97,114,97,109,115] 2827),(vS [112,97,114,116,115] 2828),(vS [107] 2829),(vS [118] 2830)]
noncomputable def Atf:PO:=λ_=>tO []
noncomputable def An7:PO:=λ_=>fO .none z44 z55 (Fg 70 16) 0 .none .none .none .none .none .none 0
noncomputable def Aou:PO:=λ_=>cO [(vS z44 2821),(vS z55 2822),(vS z0 2823),(i0 202),(i0 3),(i0 0),(i0 0),(i0 11),(.ref 288),(.bool true),(i0 276),(.ref 289),.none,(.ref 290),(.ref 291),(.ref 292),(i0 2831),(i0 202),(vS z0 2832)]
noncomputable def Nl:PO:=λ_=>fO (.type "function") z44 z55 (Fg 70 16) 3 .none .none .none (vS z1 2580) (.ref 293) .none 0
noncomputable def Aqs:PO:=λ_=>tO [(vS [95,104,101,97,100,101,114,115] 2834)]
noncomputable def Aq0:PO:=λP=>dO [ke P z65 2693 (vS z1 2580),ki P z37 2697 133 2696,ke P z45 2707 (.ref 191),ke P z7 2717 (.ref 198),ke P z70 2724 (.ref 205),ke P z38 2733 (.ref 212),ke P z39 2739 (.ref 217),ke P z40 2747 (.ref 224),ke P z36 2755 (.ref 231),ke P z66 2761 (.ref 236),ke P z95 2772 (.ref 244),ke P z84 2778 (.ref 249),ke P z76 2784 (.ref 254),ke P z80 2791 (.ref 261),ke P z46 2798 (.ref 268),ke P z71 2804 (.ref 273),ke P z57 2811 (.ref 280),ke P z41 2820 (.ref 287),ke P z44 2833 (.ref 294),ke P z14 2835 (.ref 295),ke P z49 2837 (.ref 298),ke P z19 2839 (.ref 299),ke P z13 2840 .none] 4
noncomputable def Ai3:PO:=λ_=>⟨(.type "type"),none,(.cls {name:=⟨⟨z30⟩⟩,bases:=[(.type "object")],mro:=[(.ref 297),(.type "object")],ns:=296,qualname:=⟨⟨z30⟩⟩,hasDict:=true,slotNames:=[],subclasses:=[],abstract:=false,collection:=none,hasDel:=false}),⟨[none,none,(some (vS z30 2686)),(some (vS z30 2694)),(some (.builtin "object.__new__")),(some (.bool true))]⟩⟩
noncomputable def At4:PO:=λ_=>⟨(.type "getset_descriptor"),none,(.fields ⟨[(vS z49 2836),(.ref 297),(.builtin "function.__dict__"),(.builtin "function.__dict__#set")]⟩),⟨[]⟩⟩
noncomputable def Au1:PO:=λ_=>⟨(.type "getset_descriptor"),none,(.fields ⟨[(vS z19 2838),(.ref 297),(.builtin "ExceptionGroup.__weakref__"),.none]⟩),⟨[]⟩⟩
noncomputable def Aqv:PO:=λ_=>⟨(.type "super"),none,(.fields ⟨[(.ref 297),(.ref 297),(.ref 297)]⟩),⟨[]⟩⟩
noncomputable def Asg:PO:=λ_=>⟨(.type "builtin_function_or_method"),none,(.fields ⟨[(.builtin "object.__init_subclass__"),(.ref 297)]⟩),⟨[]⟩⟩
noncomputable def Aot:PO:=λ_=>tO []
noncomputable def Av9:PO:=λ_=>nO []
noncomputable def Aud:PO:=λ_=>tO [(vS z93 2848)]
noncomputable def Anv:PO:=λ_=>tO []
noncomputable def Aqm:PO:=λ_=>fQ z11 (st 72)
noncomputable def Art:PO:=λ_=>cO [(vS z11 2845),(vS z11 2846),(vS z0 2847),(i0 216),(i0 1),(i0 0),(i0 0),(i0 3),(.ref 302),(.bool true),(i0 276),(.ref 303),.none,(.ref 304),(.ref 305),(.ref 306),(i0 2849),(i0 216),(vS z0 2850)]
noncomputable def Nz:PO:=λ_=>fO (.type "function") z11 z11 (st 72) 3 .none .none .none (vS z2 2843) (.ref 307) .none 0
noncomputable def Av3:PO:=λ_=>tO []
noncomputable def Asz:PO:=λ_=>nO []
noncomputable def Auc:PO:=λ_=>tO [(vS [120] 2855),(vS Anc 2856),(vS [115,112,101,108,108,105,110,103,115] 2857),(vS [109,97,114,107] 2858),(vS [110,117,109,98,101,114] 2859),(vS [108,101,102,116] 2860),(vS [114,105,103,104,116] 2861),(vS [110,111,116,95,108,101,102,116] 2862),(vS [110,111,116,95,114,105,103,104,116] 2863),(vS [117,110,115,101,101,110] 2864),(vS [119,114,105,116,116,101,110] 2865)]
noncomputable def Aqj:PO:=λ_=>tO []
noncomputable def Avp:PO:=λ_=>fQ z32 (st 73)
noncomputable def Arw:PO:=λ_=>cO [(vS z32 2852),(vS z32 2853),(vS z0 2854),(i0 220),(i0 1),(i0 0),(i0 0),(i0 3),(.ref 309),(.bool true),(i0 276),(.ref 310),.none,(.ref 311),(.ref 312),(.ref 313),(i0 2866),(i0 220),(vS z0 2867)]
noncomputable def Nw:PO:=λ_=>fO (.type "function") z32 z32 (st 73) 3 .none .none .none (vS z2 2843) (.ref 314) .none 0
noncomputable def Au0:PO:=λ_=>tO []
noncomputable def Avd:PO:=λ_=>nO []
noncomputable def Aos:PO:=λ_=>tO [(vS z93 2872),(vS [115,101,116,116,105,110,103,115] 2873)]
noncomputable def As2:PO:=λ_=>tO []
noncomputable def At6:PO:=λ_=>fQ z25 (st 74)
noncomputable def Apn:PO:=λ_=>cO [(vS z25 2869),(vS z25 2870),(vS z0 2871),(i0 233),(i0 1),(i0 0),(i0 0),(i0 3),(.ref 316),(.bool true),(i0 276),(.ref 317),.none,(.ref 318),(.ref 319),(.ref 320),(i0 2874),(i0 233),(vS z0 2875)]
noncomputable def Ng:PO:=λ_=>fO (.type "function") z25 z25 (st 74) 3 .none .none .none (vS z2 2843) (.ref 321) .none 0
noncomputable def Arr:PO:=λ_=>tO []
noncomputable def Ant:PO:=λ_=>nO []
noncomputable def Atp:PO:=λ_=>tO [(vS [114,117,108,101] 2880),(vS [111,110,101] 2881),(vS [116,119,111] 2882)]
noncomputable def Atz:PO:=λ_=>tO []
noncomputable def Avo:PO:=λ_=>fQ z26 (st 75)
noncomputable def Aob:PO:=λ_=>cO [(vS z26 2877),(vS z26 2878),(vS z0 2879),(i0 238),(i0 1),(i0 0),(i0 0),(i0 3),(.ref 323),(.bool true),(i0 276),(.ref 324),.none,(.ref 325),(.ref 326),(.ref 327),(i0 2883),(i0 238),(vS z0 2884)]
noncomputable def M3:PO:=λ_=>fO (.type "function") z26 z26 (st 75) 3 .none .none .none (vS z2 2843) (.ref 328) .none 0
noncomputable def Apt:PO:=λ_=>tO []
noncomputable def Atv:PO:=λ_=>nO []
noncomputable def Avm:PO:=λ_=>tO [(vS [116,101,120,116] 2889),(vS [111,117,116] 2890),(vS [115,105,103,110] 2891)]
noncomputable def Avz:PO:=λ_=>tO []
noncomputable def Asn:PO:=λ_=>fQ z12 (st 76)
noncomputable def Aoy:PO:=λ_=>cO [(vS z12 2886),(vS z12 2887),(vS z0 2888),(i0 252),(i0 1),(i0 0),(i0 0),(i0 3),(.ref 330),(.bool true),(i0 276),(.ref 331),.none,(.ref 332),(.ref 333),(.ref 334),(i0 2892),(i0 252),(vS z0 2893)]
noncomputable def Nm:PO:=λ_=>fO (.type "function") z12 z12 (st 76) 3 .none .none .none (vS z2 2843) (.ref 335) .none 0
noncomputable def Avt:PO:=λ_=>tO []
noncomputable def Aod:PO:=λ_=>nO []
noncomputable def Aux:PO:=λ_=>tO [(vS [116,101,120,116] 2898),(vS Ak8 2899),(vS [112,108,97,99,101] 2900),(vS [115,105,122,101] 2901)]
noncomputable def Aqi:PO:=λ_=>tO []
noncomputable def Apc:PO:=λ_=>fQ z18 (st 77)
noncomputable def Aqa:PO:=λ_=>cO [(vS z18 2895),(vS z18 2896),(vS z0 2897),(i0 258),(i0 1),(i0 0),(i0 0),(i0 3),(.ref 337),(.bool true),(i0 276),(.ref 338),.none,(.ref 339),(.ref 340),(.ref 341),(i0 2902),(i0 258),(vS z0 2903)]
noncomputable def Ny:PO:=λ_=>fO (.type "function") z18 z18 (st 77) 3 .none .none .none (vS z2 2843) (.ref 342) .none 0
noncomputable def As0:PO:=λ_=>tO []
noncomputable def Aqb:PO:=λ_=>nO []
noncomputable def Aq3:PO:=λ_=>tO [(vS Ak8 2908),(vS Anc 2909),(vS [112,105,101,99,101] 2910),(vS [107] 2911)]
noncomputable def Ar6:PO:=λ_=>tO []
noncomputable def Au5:PO:=λ_=>fQ z33 (st 78)
noncomputable def Av5:PO:=λ_=>cO [(vS z33 2905),(vS z33 2906),(vS z0 2907),(i0 271),(i0 1),(i0 0),(i0 0),(i0 3),(.ref 344),(.bool true),(i0 276),(.ref 345),.none,(.ref 346),(.ref 347),(.ref 348),(i0 2912),(i0 271),(vS z0 2913)]
noncomputable def M6:PO:=λ_=>fO (.type "function") z33 z33 (st 78) 3 .none .none .none (vS z2 2843) (.ref 349) .none 0
noncomputable def Ask:PO:=λ_=>tO []
noncomputable def Ary:PO:=λ_=>nO []
noncomputable def Ap3:PO:=λ_=>tO [(vS Ak8 2918),(vS Anc 2919),(vS [115,121,109,98,111,108,115] 2920),(vS [112,105,101,99,101] 2921),(vS [114,117,108,101,115] 2922),(vS [114,117,108,101] 2923),(vS [116,105,108,100,101] 2924),(vS [115,121,109,98,111,108] 2925)]
noncomputable def Aui:PO:=λ_=>tO []
noncomputable def Ass:PO:=λ_=>fQ z27 (st 79)
noncomputable def Ar5:PO:=λ_=>cO [(vS z27 2915),(vS z27 2916),(vS z0 2917),(i0 279),(i0 2),(i0 0),(i0 0),(i0 3),(.ref 351),(.bool true),(i0 276),(.ref 352),.none,(.ref 353),(.ref 354),(.ref 355),(i0 2926),(i0 279),(vS z0 2927)]
noncomputable def N5:PO:=λ_=>fO (.type "function") z27 z27 (st 79) 3 .none .none .none (vS z2 2843) (.ref 356) .none 0
noncomputable def Aqc:PO:=λ_=>tO []
noncomputable def Apz:PO:=λ_=>nO []
noncomputable def Anu:PO:=λ_=>tO [(vS [114,117,108,101] 2932),(vS [98,97,114,114,101,100] 2933),(vS [115,116,101,112,115] 2934),(vS [112] 2935),(vS [113] 2936),(vS [111,110,101] 2937),(vS [116,119,111] 2938)]
noncomputable def Aq8:PO:=λ_=>tO []
noncomputable def Apv:PO:=λ_=>fQ z28 (st 80)
noncomputable def Avl:PO:=λ_=>cO [(vS z28 2929),(vS z28 2930),(vS z0 2931),(i0 301),(i0 1),(i0 0),(i0 0),(i0 3),(.ref 358),(.bool true),(i0 276),(.ref 359),.none,(.ref 360),(.ref 361),(.ref 362),(i0 2939),(i0 301),(vS z0 2940)]
noncomputable def Mv:PO:=λ_=>fO (.type "function") z28 z28 (st 80) 3 .none .none .none (vS z2 2843) (.ref 363) .none 0
noncomputable def Api:PO:=λ_=>tO []
noncomputable def Ao0:PO:=λ_=>nO []
noncomputable def Awl:PO:=λ_=>tO [(vS [107] 2945),(vS [114,111,119] 2946),(vS [116,97,98,108,101] 2947),(vS [112,105,108,101] 2948),(vS [98,111,117,110,100,115] 2949),(vS [115,101,101,110] 2950),(vS [103,114,111,117,112,115] 2951),(vS [108,101,97,100,115] 2952),(vS z93 2953),(vS [106] 2954),(vS [103,114,111,117,112] 2955),(vS [104,101,108,100] 2956)]
noncomputable def At0:PO:=λ_=>tO []
noncomputable def Asf:PO:=λ_=>fQ z21 (st 81)
noncomputable def Ap2:PO:=λ_=>cO [(vS z21 2942),(vS z21 2943),(vS z0 2944),(i0 314),(i0 8),(i0 0),(i0 0),(i0 3),(.ref 365),(.bool true),(i0 276),(.ref 366),.none,(.ref 367),(.ref 368),(.ref 369),(i0 2957),(i0 314),(vS z0 2958)]
noncomputable def Oe:PO:=λ_=>fO (.type "function") z21 z21 (st 81) 3 .none .none .none (vS z2 2843) (.ref 370) .none 0
noncomputable def Apf:PO:=λ_=>tO []
noncomputable def An1:PO:=λ_=>nO []
noncomputable def An4:PO:=λ_=>fQ z29 (st 82)
noncomputable def Ap4:PO:=λ_=>cO [(vS z29 2960),(vS z29 2961),(vS z0 2962),(i0 336),(i0 4),(i0 0),(i0 0),(i0 3),(.ref 372),(.bool true),(i0 276),(.ref 373),.none,.none,.none,(.ref 374),(i0 2963),(i0 336),(vS z0 2964)]
noncomputable def Nq:PO:=λ_=>fO (.type "function") z29 z29 (st 82) 3 .none .none .none (vS z2 2843) (.ref 375) .none 0
noncomputable def Au8:PO:=λ_=>tO []
noncomputable def Awm:PO:=λ_=>nO []
noncomputable def Auz:PO:=λ_=>fQ z88 (st 83)
noncomputable def Apw:PO:=λ_=>cO [(vS z88 2966),(vS z88 2967),(vS z0 2968),(i0 376),(i0 1),(i0 0),(i0 0),(i0 3),(.ref 377),(.bool true),(i0 276),(.ref 378),.none,.none,.none,(.ref 379),(i0 2969),(i0 376),(vS z0 2970)]
noncomputable def Ld:PO:=λ_=>fO (.type "function") z88 z88 (st 83) 3 .none .none .none (vS z2 2843) (.ref 380) .none 0
noncomputable def Zi(g:Nat→Obj)(P:Params):BT:=(.node (ob0 P) (.node (ob1 P) (.node (Aet P) (.node (ob7 P) (.node (R5 P) (.node (Yb P) (.node (Abe P) (.node (Ait P) (lf (Atw P)) .nil) (.node (Mz P) (lf (As2 P)) .nil)) (.node (g 95) (.node (Anr P) (lf (An2 P)) .nil) (.node (Av8 P) (lf (Ask P)) .nil))) (.node (Pk P) (.node (Acr P) (.node (Aqr P) (lf (Aum P)) .nil) (.node (Awn P) (lf (Aoy P)) .nil)) (.node (g 111) (.node (Avx P) (lf (Av9 P)) .nil) (.node (Aq9 P) (lf (Awl P)) .nil)))) (.node (R8 P) (.node (Xu P) (.node (Ad7 P) (.node (Aoc P) (lf (Awe P)) .nil) (.node (Apl P) (lf (Avo P)) .nil)) (.node (g 103) (.node (Aio P) (lf (Aqs P)) .nil) (.node (Ari P) (lf (Apz P)) .nil))) (.node (Aej P) (.node (g 87) (.node (Auk P) (lf (Aoa P)) .nil) (.node (Apy P) (lf (Ny P)) .nil)) (.node (g 119) (.node (Avv P) (lf (Auc P)) .nil) (.node (Anj P) (lf (Ap4 P)) .nil))))) (.node (Gb P) (.node (Sj P) (.node (Ad6 P) (.node (Z2 P) (.node (Aiw P) (lf (Auq P)) .nil) (.node (Aqd P) (lf (Arr P)) .nil)) (.node (g 99) (.node (Air P) (lf (Atf P)) .nil) (.node (An8 P) (lf (Ass P)) .nil))) (.node (Abq P) (.node (Mm P) (.node (Any P) (lf (Arb P)) .nil) (.node (Aqx P) (lf (Aux P)) .nil)) (.node (g 115) (.node (Asq P) (lf (Art P)) .nil) (.node (Aqh P) (lf (Oe P)) .nil)))) (.node (Qv P) (.node (Zs P) (.node (Zx P) (.node (Nk P) (lf (Aty P)) .nil) (.node (Arp P) (lf (Atv P)) .nil)) (.node (g 107) (.node (Ap7 P) (lf (Au1 P)) .nil) (.node (Au7 P) (lf (Avl P)) .nil))) (.node (Z7 P) (.node (g 91) (.node (Anw P) (lf (Av2 P)) .nil) (.node (Apr P) (lf (Ar6 P)) .nil)) (.node (Ai8 P) (.node (Apj P) (lf (Nw P)) .nil) (.node (Aug P) (lf (Auz P)) .nil)))))) (.node (ob5 P) (.node (ob9 P) (.node (Sw P) (.node (Adk P) (.node (Ow P) (.node (Kx P) (lf (Asp P)) .nil) (.node (Atg P) (lf (Apn P)) .nil)) (.node (g 97) (.node (Atu P) (lf (As3 P)) .nil) (.node (Atm P) (lf (Ap3 P)) .nil))) (.node (Y4 P) (.node (Aec P) (.node (Aq7 P) (lf (App P)) .nil) (.node (Apm P) (lf (Avt P)) .nil)) (.node (g 113) (.node (Aoi P) (lf (Anv P)) .nil) (.node (Aso P) (lf (Asf P)) .nil)))) (.node (Ry P) (.node (Aa2 P) (.node (Up P) (.node (Aur P) (lf (At9 P)) .nil) (.node (As7 P) (lf (M3 P)) .nil)) (.node (g 105) (.node (Aqf P) (lf (Ai3 P)) .nil) (.node (Aqu P) (lf (Aq8 P)) .nil))) (.node (Zd P) (.node (g 89) (.node (M5 P) (lf (Apg P)) .nil) (.node (Av0 P) (lf (Aqb P)) .nil)) (.node (g 121) (.node (Aup P) (lf (Avp P)) .nil) (.node (Avh P) (lf (Au8 P)) .nil))))) (.node (Rg P) (.node (Sp P) (.node (Acy P) (.node (Acx P) (.node (Asa P) (lf (Aro P)) .nil) (.node (Atl P) (lf (Atp P)) .nil)) (.node (g 101) (.node (Asc P) (lf (Aou P)) .nil) (.node (Aqo P) (lf (N5 P)) .nil))) (.node (Aaw P) (.node (g 85) (.node (Arv P) (lf (Awc P)) .nil) (.node (Atx P) (lf (Apc P)) .nil)) (.node (g 117) (.node (Aoh P) (lf (Av3 P)) .nil) (.node (Ano P) (lf (An1 P)) .nil)))) (.node (Ad4 P) (.node (Ada P) (.node (Ad3 P) (.node (Auy P) (lf (Ao6 P)) .nil) (.node (Aue P) (lf (Avz P)) .nil)) (.node (g 109) (.node (Asl P) (lf (Asg P)) .nil) (.node (Aq1 P) (lf (Api P)) .nil))) (.node (Ad2 P) (.node (g 93) (.node (Ap8 P) (lf (Auh P)) .nil) (.node (An6 P) (lf (Av5 P)) .nil)) (.node (Ai2 P) (.node (Atd P) (lf (Avd P)) .nil) (.node (Awf P) (lf (Ld P)) .nil))))))) (.node (ob2 P) (.node (ob4 P) (.node (ob8 P) (.node (Rw P) (.node (Aa1 P) (.node (Adu P) (.node (Aif P) (lf (Av7 P)) .nil) (.node (Awp P) (lf (At6 P)) .nil)) (.node (g 96) (.node (Aox P) (lf (Avr P)) .nil) (.node (Atc P) (lf (Ary P)) .nil))) (.node (Zg P) (.node (Z8 P) (.node (Asb P) (lf (Aom P)) .nil) (.node (Ata P) (lf (Nm P)) .nil)) (.node (g 112) (.node (Apu P) (lf (Aud P)) .nil) (.node (Ar0 P) (lf (At0 P)) .nil)))) (.node (Sb P) (.node (Xa P) (.node (Aaf P) (.node (Auv P) (lf (Aqn P)) .nil) (.node (Awa P) (lf (Aob P)) .nil)) (.node (g 104) (.node (Ai0 P) (lf (Aq0 P)) .nil) (.node (Anq P) (lf (Anu P)) .nil))) (.node (Py P) (.node (g 88) (.node (Apa P) (lf (Apb P)) .nil) (.node (Awj P) (lf (As0 P)) .nil)) (.node (g 120) (.node (Aik P) (lf (Aqj P)) .nil) (.node (Ate P) (lf (Nq P)) .nil))))) (.node (Ru P) (.node (Ss P) (.node (Aep P) (.node (Adq P) (.node (Ail P) (lf (Asr P)) .nil) (.node (Ard P) (lf (Ant P)) .nil)) (.node (g 100) (.node (Aq4 P) (lf (An7 P)) .nil) (.node (Aqk P) (lf (Ar5 P)) .nil))) (.node (Aag P) (.node (g 84) (.node (Ar7 P) (lf (Are P)) .nil) (.node (An0 P) (lf (Aqi P)) .nil)) (.node (g 116) (.node (Au3 P) (lf (Nz P)) .nil) (.node (Arx P) (lf (Apf P)) .nil)))) (.node (Xo P) (.node (Abw P) (.node (Z6 P) (.node (At3 P) (lf (Aop P)) .nil) (.node (Awr P) (lf (Avm P)) .nil)) (.node (g 108) (.node (Arh P) (lf (Aqv P)) .nil) (.node (Oa P) (lf (Mv P)) .nil))) (.node (Aeo P) (.node (g 92) (.node (Ark P) (lf (Ap6 P)) .nil) (.node (Anl P) (lf (Au5 P)) .nil)) (.node (Aie P) (.node (Arc P) (lf (Au0 P)) .nil) (.node (Ar1 P) (lf (Apw P)) .nil)))))) (.node (ob6 P) (.node (Qe P) (.node (Sc P) (.node (Adv P) (.node (Ab0 P) (.node (Wg P) (lf (Aru P)) .nil) (.node (At1 P) (lf (Ng P)) .nil)) (.node (g 98) (.node (Ajf P) (lf (Avb P)) .nil) (.node (Ao8 P) (lf (Aui P)) .nil))) (.node (Acn P) (.node (Aam P) (.node (Nv P) (lf (At8 P)) .nil) (.node (Au6 P) (lf (Aod P)) .nil)) (.node (g 114) (.node (Av4 P) (lf (Aqm P)) .nil) (.node (Asd P) (lf (Ap2 P)) .nil)))) (.node (P7 P) (.node (Abr P) (.node (Zn P) (.node (At5 P) (lf (Aol P)) .nil) (.node (Ave P) (lf (Apt P)) .nil)) (.node (g 106) (.node (Auu P) (lf (At4 P)) .nil) (.node (Ar8 P) (lf (Apv P)) .nil))) (.node (X5 P) (.node (g 90) (.node (Aua P) (lf (Anm P)) .nil) (.node (Av1 P) (lf (Aq3 P)) .nil)) (.node (g 122) (.node (Au4 P) (lf (Arw P)) .nil) (.node (As5 P) (lf (Awm P)) .nil))))) (.node (Qf P) (.node (Si P) (.node (Aad P) (.node (Aaz P) (.node (Aqq P) (lf (Aof P)) .nil) (.node (N7 P) (lf (Atz P)) .nil)) (.node (g 102) (.node (Ats P) (lf (Nl P)) .nil) (.node (Avg P) (lf (Aqc P)) .nil))) (.node (Z3 P) (.node (g 86) (.node (Arf P) (lf (Aq6 P)) .nil) (.node (Avs P) (lf (Aqa P)) .nil)) (.node (g 118) (.node (Avn P) (lf (Asz P)) .nil) (.node (Asy P) (lf (An4 P)) .nil)))) (.node (X4 P) (.node (Ael P) (.node (Ab2 P) (.node (As1 P) (lf (Att P)) .nil) (.node (Aun P) (lf (Asn P)) .nil)) (.node (g 110) (.node (Ao1 P) (lf (Aot P)) .nil) (.node (Apk P) (lf (Ao0 P)) .nil))) (.node (Adp P) (.node (g 94) (.node (Aok P) (lf (Aow P)) .nil) (.node (Ank P) (lf (M6 P)) .nil)) (.node (Aij P) (.node (Auw P) (lf (Aos P)) .nil) (lf (Au9 P)))))))))
noncomputable def s83(g:Nat→Obj)(P:Params):ST:=⟨Zi g P,382,2972⟩
noncomputable abbrev Afk:String→Option Builtin:=PySem.W.Fast.tw14364793385576792824
noncomputable abbrev Afd:Code→Sem Fin:=PySem.W.Fast.tw11892475500146522536 Afk
noncomputable abbrev Ou:List Stmt→Env→Sem Flow:=PySem.W.Fast.tw12563942051412417395
noncomputable abbrev Aby:PySem.Module→Sem Value:=PySem.W.Fast.tw17154629097778926822
noncomputable def Ajw(w:World):Setting:=⟨A6,w.params⟩
noncomputable def H1:Env:={scope:=A6.main.scope,locals:=mainNs,globals:=mainNs,cells:=[],code:=.ref 30,frame:=some 31}
noncomputable def Amv:Ctx:=⟨.builtin "claim.caller" {},none,none,[],none⟩
noncomputable def Kq(p:Pos):Ctx:=Amv.enter (.body Tj H1) none p
noncomputable def T1{α:Type}(w:World)(Γ:Ctx)(t:Sem α)(p:Pos)(s:ST):Option (Except Value α×ST):=(En (Z9 Afd (Ajw w) 60) (Ajw w) Γ t p s).map λr=>(r.1,r.2.2)
theorem Ajs(w:World):PySem.W.Fast.tw10274390034422433532 Afk (opening A6) w 2000 (start (opening A6)).1 (start (opening A6)).2=some ⟨absHeap (tso w.params) 28 {},#[],{},276,(start (opening A6)).1.os⟩:=by kernel_rfl
theorem Ae0(w:World)(os:OsState):PySem.W.Fast.tw14289696077712309145 A6 ⟨absHeap (tso w.params) 28 {},#[],{},276,os⟩=some ⟨absHeap (ts0 w.params) 28 {},#[],{},276,os⟩:=by kernel_rfl
theorem Ajh(w:World)(p:Pos):T1 w Amv (Aby A6.main >>= λcode=>newBodyFrame code mainNs mainNs >>= λf=>pure (code,f)) p (s0 w.params)=some (.ok (.ref 30,31),sp w.params):=by kernel_rfl
theorem Ago(w:World)(p q:Pos):T1 w (Kq q) (blockStart Tj H1) p (sp w.params)=some (.ok (),sp w.params):=by kernel_rfl
theorem k_1(w:World)(p q:Pos):T1 w (Kq q) (Ou (Tj.take 8) H1) p (sp w.params)=some (.ok .next,s7 w.params):=by
 revert w
 refine byRow2 "special-get-raises" (λw=>?_) (λw=>?_)<;>kernel_rfl
theorem k_8(g:Nat→Obj)(w:World)(p q:Pos):T1 w (Kq q) (PySem.W.Fast.tw7998390705656384164 H1 (Str.ofString "b3_exceptions") (.ref 84)) p (s7g g w.params)=some (.ok (),s8 g w.params):=by kernel_rfl
theorem k_9(g:Nat→Obj)(w:World)(p q:Pos):T1 w (Kq q) (Ou ((Tj.drop 9).take 53) H1) p (s8 g w.params)=some (.ok .next,s61 g w.params):=by
 revert w
 refine byRow2 "special-get-raises" (λw=>?_) (λw=>?_)<;>kernel_rfl
theorem Awz(g:Nat→Obj)(w:World)(p q:Pos):T1 w (Kq q) (Ou (Tj.drop 62) H1) p (s61 g w.params)=some (.ok .next,s83 g w.params):=by kernel_rfl
section
variable {den:Code→Sem Fin} {p:Program} {w:World}
theorem Ni:∀{n:Nat} {s s':Shared} {t:Thread} {o:Outcome},runN den p w n s t = .halted o s'→∃m s₁ t₁,runN den p w m s t = .running s₁ t₁∧step den p w s₁ t₁ = .halt o s'
 | 0,_,_,_,_,h=>by exact nomatch h
 | n+1,s,s',t,o,h=>by
  dsimp only[runN]at h
  cases hs:step den p w s t with
  | go s₂ t₂=>
   rw[hs]at h
   refine Ip (Ni h) λm s₁ t₁ a b=>?_
   exact⟨m+1,s₁,t₁,by simp only[runN,hs];exact a,b⟩
  | halt o₂ s₂=>
   rw[hs]at h
   cases h
   exact⟨0,s,t,rfl,hs⟩
noncomputable def Aax:Step→Bool
 | .halt (.done _) _=>true
 | _=>false
theorem J6(h:step den p w s t = .halt (.done f) s'):through t=true:=by
 refine Decidable.byContradiction λhp=>?_
 have hz:Aax (step den p w s t)=true:=congrArg Aax h
 clear h s'
 obtain⟨heap,gens,drawn,toks,os⟩:=s
 obtain⟨cur,code,pos,stack⟩:=t
 induction cur using Sem.casesOn with
 | pure r=>
  induction r with
  | again c=>exact Ff hz
  | done f=>
   rcases stack with _ | ⟨x,rest⟩
   ·exact hp rfl
   ·induction x<;>exact Ff hz
 | raise e=>
  rcases stack with _ | ⟨x,rest⟩
  ·delta step at hz
   dsimp only[finish]at hz
   generalize leftWithCleanup gens=b at hz
   induction b<;>exact Ff hz
  ·induction x<;>exact Ff hz
 | finish e=>
  delta step at hz
  dsimp only at hz
  generalize leftWithCleanup gens=b at hz
  induction b<;>exact Ff hz
 | load a q k=>
  delta step at hz
  dsimp only at hz
  generalize heap.get? a=b at hz
  induction b<;>exact Ff hz
 | update a q f k=>
  delta step at hz
  dsimp only at hz
  generalize (heap.get? a).isSome=b at hz
  induction b<;>exact Ff hz
 | choose src n k=>
  rcases n with _ | n<;>exact Ff hz
 | os q x k=>
  delta step at hz
  dsimp only at hz
  generalize Os.step os q=b at hz
  obtain⟨o,r⟩:=b
  exact Ff hz
 | genState g k=>
  delta step at hz
  dsimp only at hz
  generalize gens[g]? = b at hz
  induction b<;>exact Ff hz
 | resume g r l k=>
  delta step at hz
  dsimp only at hz
  generalize gens[g]? = b at hz
  rcases b with _ | b
  ·exact Ff hz
  ·rcases b with c | _ | _ | _
   ·rcases r with v | e
    ·rcases v<;>exact Ff hz
    ·exact Ff hz
   all_goals exact Ff hz
 | yield v g l k=>
  delta step at hz
  dsimp only at hz
  generalize splitAtGen stack=b at hz
  rcases b with _ | ⟨fr,⟨g,k,c,p⟩,rest⟩<;>exact Ff hz
 | _=>exact Ff hz
theorem Ml{P:Shared→Prop}(hz:s₀.asleep)
  (h:Sem.wp ⟨den,p,w⟩ ⟨c,none,none,[],none⟩ tree (λfin _ s'=>(∃f,fin = .done f)∧s'.gens = #[]∧P s') (λ_ _ _=>False) q s₀):
  ∃n t sF,schedN den p w n (.single s₀ ⟨tree,c,q,[]⟩) = .running (.single sF t)∧through t=true∧P sF:=by
 have h':=(wp_iff_halts (M:=⟨den,p,w⟩) (c:=c) tree (λr s'=>(∃f,r = .ok f)∧s'.gens = #[]∧P s') q s₀).mp
  (Sem.wp_mono _ _ _ (λfin _ s' x=>by
   refine Pb x λw1 hg hP=>?_
   clear x
   refine xe w1 λf z=>?_
   clear w1
   subst z
   exact⟨⟨⟨f,rfl⟩,hg,hP⟩,by rw[hg];simp[leftWithCleanup]⟩) (λ_ _ _ x=>x.elim) _ _ h)
 refine Ar h' λn r s' hn w1 hg hP=>?_
 clear h'
 refine xe w1 λf z=>?_
 clear w1
 subst z
 refine D7 (runNI_real _ _ _ hn rfl) λs'' hr hf hc=>?_
 obtain rfl:s''=s':=Shared.eq_of_forget_eq hf hg
 have hne:∀k s₂,runN den p w k s₀ ⟨tree,c,q,[]⟩≠.halted (.unsupported "lifetime:generator-with-cleanup-left-suspended") s₂:=by
  intro k s₂ hk
  have a:=runN_mono den p w n k s₀ _ _ s'' hr
  have b:=runN_mono den p w k n s₀ _ _ s₂ hk
  rw[add_comm,b]at a
  injection a with a1 _
  exact nomatch a1
 refine Ip (Ni hr) λm s₁ t₁ h1 h2=>?_
 obtain rfl:=step_halt_same den p w _ _ _ _ h2
 exact⟨m,t₁,_,(schedN_eq_runN den p w s₀ _ hz ⟨hc,hne⟩ m).trans (congrArg Run.lift h1),J6 h2,hP⟩
end
theorem U6:treeTable=Afk:=PySem.W.Fast.te14364793385576792824
theorem Ag9:denote table=Afd:=by
 rw[table_eq_tree,U6]
 exact congrFun PySem.W.Fast.te11892475500146522536 Afk
theorem Yw:execs=Ou:=PySem.W.Fast.te12563942051412417395
theorem Adn(m:PySem.Module):moduleCode m=Aby m:=by
 delta Aby
 rw[←PySem.W.Fast.te17154629097778926822]
theorem W9:storeName=PySem.W.Fast.tw7998390705656384164:=PySem.W.Fast.te7998390705656384164
noncomputable abbrev P3(w:World):Model:=⟨denote table,A6,w⟩
theorem Hb{α:Type}{w:World}{Γ:Ctx}{t:Sem α}{s s':ST}{r:Except Value α}{p:Pos}(h:T1 w Γ t p s=some (r,s'))(z:Shared)(Q:α→Pos→Shared→Prop)(E:Value→Pos→Shared→Prop)
  (q:∀p',after Q E r p' (s'.abs z)):Sem.wp (P3 w) Γ t Q E p (s.abs z):=by
 refine Ch h λw1 h1 h2=>?_
 clear h
 obtain⟨r₁,p',s₁⟩:=w1
 simp only[Prod.mk.injEq]at h2
 refine xa h2 λz1 z2=>?_
 clear h2
 subst z1
 subst z2
 have hc:Akm (P3 w) z (Z9 Afd (Ajw w) 60):=by
  have:=Pr (P3 w) z 60
  rw[show(P3 w).den=Afd from Ag9]at this
  exact this
 exact Wa hc Γ t p s _ _ _ h1 Q E (q _)
theorem exN(env:Env):execs [] env=pure .next:=rfl
theorem exC(s:Stmt)(l:List Stmt)(env:Env):execs (s::l) env=exec s env >>= λf=>match f with | .next=>execs l env | f=>pure f:=rfl
theorem C6:∀(l₁:List Stmt) (p:Pos) (s:Shared),
  Sem.wp M Γ (execs l₁ env) (λf p' s'=>f = .next∧Sem.wp M Γ (execs l₂ env) Q E p' s') E p s→Sem.wp M Γ (execs (l₁++l₂) env) Q E p s
 | [],p,s,h=>by
  exact h.2
 | st::l,p,s,h=>by
  simp only[cons_append,exC,Sem.wp_bind']at h⊢
  refine Sem.wp_mono _ _ _ (λf p' s' h'=>?_) (λ_ _ _ x=>x) _ _ h
  induction f with
  | next=>exact C6 l p' s' h'
  | _=>exact absurd h'.1 (by simp)
theorem Yd(h:Ato e=some a):e = .Constant (.int a.1) a.2.1 a.2.2:=by
 refine Classical.byContradiction λhn=>?_
 induction e using Expr.casesOn with
 | Constant c n p=>
  induction c with
  | int k=>exact hn (Option.some.inj h▸rfl)
  | _=>exact Am h
 | _=>exact Am h
theorem Xn(h:Aph e=some a):e = .Constant (.str a.1) a.2.1 a.2.2:=by
 refine Classical.byContradiction λhn=>?_
 induction e using Expr.casesOn with
 | Constant c n p=>
  induction c with
  | str k=>exact hn (Option.some.inj h▸rfl)
  | _=>exact Am h
 | _=>exact Am h
theorem Yf(h:Au2 e=some a):e = .Name a.1 a.2:=by
 refine Classical.byContradiction λhn=>?_
 induction e using Expr.casesOn with
 | Name n p=>exact hn (Option.some.inj h▸rfl)
 | _=>exact Am h
theorem X0(h:Aqp e=some a):e = .Dict a.1 a.2.1 a.2.2:=by
 refine Classical.byContradiction λhn=>?_
 induction e using Expr.casesOn with
 | Dict k v p=>exact hn (Option.some.inj h▸rfl)
 | _=>exact Am h
theorem K8:∀{ks:List (Option Expr)} {vs:List Expr} {kvs:List (Int×Str)},Lo ks vs=some kvs→J0 A6 w kvs (pairTrees ks vs env pos)∧ks.all (·.isSome)=true∧ks.length=vs.length
 | [],[],_,h=>Gc h ⟨rfl,rfl,rfl⟩
 | [],_::_,_,h=>Am h
 | none::_,_,_,h=>Am h
 | some e::ks,vs,kvs,h=>by
  refine Ay h λa h1 h=>?_
  rcases vs with _ | ⟨v,vs⟩
  ·exact Am h
  refine Ay (f:=fun(b:Str×Nat×Pos)=>(Lo ks vs).map ((a.1,b.1) :: ·)) h λb h2 h=>Ch h λr h3 z=>?_
  obtain rfl:=Yd h1
  obtain rfl:=Xn h2
  refine Pb (K8 (w:=w) (env:=env) (pos:=pos) h3) λx y c=>?_
  subst z
  exact⟨⟨_,_,rfl,⟨λA E s Q q=>wpAny_Constant_int (i:=a.1) (k:=a.2.1) (pos:=a.2.2) (env:=env) q,λA E s Q q=>wpAny_bind (wpAny_Constant_str (x:=b.1) (k:=b.2.1) (pos:=b.2.2) (env:=env) (wpAny_bind (wpAny_standAt (wpAny_pure q))))⟩,x⟩,y,congrArg Nat.succ c⟩
theorem Afh(h:Agv s=some x):s = .Assign [.Name x.1 x.2.1] (.Dict x.2.2.1 x.2.2.2.1 x.2.2.2.2.1) x.2.2.2.2.2:=by
 refine Classical.byContradiction λhn=>?_
 induction s using Stmt.casesOn with
 | Assign ts e p3=>
  rcases ts with _ | ⟨t,_ | ⟨u,ts⟩⟩
  ·exact Am h
  ·refine Ay h λa h1 h=>Ay h λb h2 h=>hn ?_
   rw[Yf h1,X0 h2,←Option.some.inj h]
  ·exact Am h
 | _=>exact Am h
theorem Ak9:∃p1 p2 p3,st 8 = .Assign [.Name (Str.ofString "b3_exceptions") p1] (.Dict Xl Ya p2) p3:=by
 have h:(Agv (st 8)).map (·.1)=some (Str.ofString "b3_exceptions"):=by kernel_rfl
 refine Ch h λx h1 z=>⟨x.2.1,x.2.2.2.2.1,x.2.2.2.2.2,?_⟩
 delta Xl Ya
 rw[h1,←z]
 exact Afh h1
theorem Aj8:Lo Xl Ya=some Mf:=by
 have h:(Lo Xl Ya).isSome=true:=by kernel_rfl
 delta Mf
 refine xe (isSome_iff_exists.mp h) λx hx=>?_
 rw[hx];rfl
noncomputable def Ta:List Int→Bool
 | a::b::r=>decide (a < b)&&Ta (b::r)
 | _=>true
theorem Wk:∀{l:List Int} {a:Int},Ta (a::l)=true→∀b∈l,a < b
 | [],_,_,_,hb=>by exact nomatch hb
 | c::l,a,h,b,hb=>by
  simp only[Ta,Bool.and_eq_true,decide_eq_true_eq]at h
  rcases mem_cons.mp hb with rfl | hb
  ·exact h.1
  ·exact Int.lt_trans h.1 (Wk h.2 b hb)
theorem Y0(h:Ta (a::l)=true):Ta l=true:=by
 induction l using List.casesOn with
 | nil=>rfl
 | cons b l=>simp only[Ta,Bool.and_eq_true]at h;exact h.2
theorem K4:∀{l:List Int},Ta l=true→l.Nodup
 | [],_=>nodup_nil
 | a::l,h=>nodup_cons.mpr ⟨λhm=>absurd (Wk h a hm) (Int.lt_irrefl a),K4 (Y0 h)⟩
theorem Acl:(Mf.map (·.1)).Nodup:=K4 (by kernel_rfl)
theorem Amc:Mf.length=650:=by kernel_rfl
theorem Aoe(g:Nat→Obj)(P:Params):(ts7 P).list 84++(List.range 39).map (λi=>g (84+i))=(Anf g P).list 123:=by kernel_rfl
theorem Aa7(p1 p2 p3:Pos):swapsWith (.Dict Xl Ya p2) (some (.Name (Str.ofString "b3_exceptions") p1)) p3.line H1=pure false:=by kernel_rfl
def Ack(g:Nat→Obj):Prop:=∃es n,g 84=Eg es n∧B3 Mf es
noncomputable def Hn(g:Nat→Obj)(w:World)(os:OsState):Shared:=⟨absHeap (Zi g w.params) 382 {},#[],{},(s83 g w.params).tk,os⟩
noncomputable def Em(w:World)(os:OsState):Shared:=⟨absHeap (ts0 w.params) 28 {},#[],{},276,os⟩
noncomputable def R7(Γ:Ctx):Around:={handled:=Γ.handled,depth:=frameCount Γ.below+Γ.code.weight,frames:=none,guards:=none,units:=Γ.units}
theorem Rh(Γ:Ctx):Γ.In (R7 Γ):=⟨rfl,le_refl _,λ_ h=>(nomatch h),λ_ h=>(nomatch h),le_refl _⟩
theorem Xe:Tj=Tj.take 8++([st 8]++((Tj.drop 9).take 53++Tj.drop 62)):=by kernel_rfl
theorem Amp(w:World)(q p:Pos)(os:OsState)(s8':Stmt)(ks:List (Option Expr))(vs:List Expr)(p1 p2 p3:Pos)(x:Str)(kvs:List (Int×Str))(e8:s8' = .Assign [.Name x p1] (.Dict ks vs p2) p3)(hsw:swapsWith (.Dict ks vs p2) (some (.Name x p1)) p3.line H1=pure false)
  (hb:Lo ks vs=some kvs) (hn:(kvs.map (·.1)).Nodup) (h650:kvs.length=650)
  (h:∀g p,(∃es n,g 84=Eg es n∧B3 kvs es)→Sem.wp (P3 w) (Kq q) (storeName H1 x (.ref 84)) (λ_ p' s'=>Q .next p' s') E p ((s7g g w.params).abs (Em w os))):
  Sem.wp (P3 w) (Kq q) (execs [s8'] H1) Q E p ((s7 w.params).abs (Em w os)):=by
 subst e8
 simp only[exC,exN,Sem.wp_bind',exec_Assign_Name H1 _ p1 _ p3 hsw,Sem.wp_cmd_standAt,Sem.wp_bindName,Sem.wp_pure',arm_eval_Dict]
 refine Pb (K8 (w:=w) (env:=H1) (pos:=p2) hb) λhl hall hlen=>?_
 rw[zip_pairTrees ks vs H1 p2 hall hlen]
 have hsz:(absHeap (ts7 w.params) 84 {}).objs.size=84:=absHeap_size _ _ _
 have key:=Qz (prog:=A6) (w:=w) (A:=R7 (Kq q)) (E:=λ_ _=>False) (Q:=λv s'=>∃g,(∃es n,g 84=Eg es n∧B3 kvs es)∧v = .ref 84∧s'=(s7g g w.params).abs (Em w os)) (s:=(s7 w.params).abs (Em w os)) (h:=absHeap (ts7 w.params) 84 {}) rfl hl hn (by rw[h650];decide) (by rw[hsz];decide)
  (by intro h;rw[h]at h650;exact nomatch h650) (λL es n h1 h2 h3=>?_) (Kq q) p2 (Rh _)
 ·refine Sem.wp_mono _ _ _ (λv p' s' h'=>?_) (λ_ _ _ x=>x.elim) _ _ key
  refine D7 h' λg hg z z1=>?_
  clear h'
  subst z
  subst z1
  exact h g _ hg
 ·refine⟨λi=>L.getD (i - 84) default,⟨es,n,?_,h3⟩,?_,?_⟩
  ·simp[h2]
  ·rw[hsz]
  ·rw[h650]at h1
   have h1':L.length=39:=h1
   have e1:L=(List.range 39).map (λi=>L.getD (84+i - 84) default):=by
    apply ext_getElem
    ·simp[h1']
    ·intro i h2 h3
     simp[h2]
   have e2:ext (absHeap (ts7 w.params) 84 {}) L=absHeap (Anf (λi=>L.getD (i - 84) default) w.params) 123 {}:=by
    delta ext absHeap
    congr 1
    rw[←Aoe]
    conv=>lhs;rw[e1]
    simp
   rw[e2,h650]
   rfl
theorem Ahc(w:World)(q p:Pos)(os:OsState):Sem.wp (P3 w) (Kq q) (execs Tj H1) (λf _ s'=>f = .next∧∃g,Ack g∧s'=Hn g w os) (λ_ _ _=>False) p ((sp w.params).abs (Em w os)):=by
 refine Ot Ak9 λa1 a2 a3 e8=>?_
 have k1:=k_1 w
 have k9:=λg=>k_9 g w
 have k62:=λg=>Awz g w
 have k8:=λg=>k_8 g w
 rw[←Yw]at k1 k9 k62
 rw[←W9]at k8
 have sp:=Xe
 generalize Tj.take 8=l1 at *
 generalize (Tj.drop 9).take 53=l3 at *
 generalize Tj.drop 62=l4 at *
 generalize st 8=s8' at *
 rw[sp]
 refine C6 _ _ _ (Hb (k1 p q) (Em w os) _ _ λp₁=>⟨rfl,?_⟩)
 refine C6 [s8'] _ _ ?_
 refine Amp w q _ os s8' _ _ _ _ _ _ _ e8 (Aa7 a1 a2 a3) Aj8 Acl Amc λg p' hg=>?_
 refine Hb (k8 g _ q) (Em w os) _ _ λp₂=>⟨rfl,?_⟩
 refine C6 _ _ _ (Hb (k9 g _ q) (Em w os) _ _ λp₃=>⟨rfl,?_⟩)
 exact Hb (k62 g _ q) (Em w os) _ _ λp₄=>⟨rfl,g,hg,rfl⟩
theorem Ake(w:World)(os:OsState):Sem.wp (P3 w) Amv (topStub A6).cur (λfin _ s'=>(∃f,fin = .done f)∧s'.gens = #[]∧∃g,Ack g∧s'=Hn g w os) (λ_ _ _=>False) default (Em w os):=by
 have h1:=Hb (Ajh w default) (Em w os) (fun(x:Value×Addr) p' s'=>x=(.ref 30,31)∧s'=(sp w.params).abs (Em w os)) (λ_ _ _=>False) λp'=>⟨rfl,rfl⟩
 simp only[Sem.wp_bind',Sem.wp_pure']at h1
 unfold topStub
 simp only[Sem.wp_bind']
 rw[Adn]
 refine Sem.wp_mono _ _ _ (λc p₁ s₁ h₁=>?_) (λ_ _ _ x=>x) _ _ h1
 refine Sem.wp_mono _ _ _ (λf p₂ s₂ h₂=>?_) (λ_ _ _ x=>x) _ _ h₁
 refine xa h₂ λe z=>?_
 clear h₂
 subst z
 simp only[Prod.mk.injEq]at e
 refine xa e λz z1=>?_
 clear e
 subst z
 subst z1
 rw[Sem.wp_run,wpCode_iff_wp]
 show Sem.wp (P3 w) (Kq p₂) (denote table (.body Tj H1)) _ _ p₂ _
 simp only[denote,Sem.wp_bind',Sem.wp_onRaise]
 refine Hb (Ago w p₂ p₂) (Em w os) _ _ λp₃=>?_
 refine Sem.wp_mono _ _ _ (λf p₄ s₄ h₄=>?_) (λ_ _ _ x=>x.elim) _ _ (Ahc w p₂ p₃ os)
 refine Axo h₄ λz g hg z1=>?_
 clear h₄
 subst z
 subst z1
 exact⟨⟨_,rfl⟩,rfl,g,hg,rfl⟩
noncomputable abbrev Ae(g:Nat→Obj)(w:World):Heap:=absHeap (Zi g w.params) 382 {}
noncomputable abbrev Adc(w:World):Heap:=absHeap (ts0 w.params) 28 {}
theorem X8(g:Nat→Obj)(w:World):staticsOk (importedModules A6.main.body) (Adc w) (Ae g w)=true:=by kernel_rfl
theorem Agm(g:Nat→Obj)(w:World):namesBound A6 (Ae g w)=true:=by kernel_rfl
theorem Aj2(g:Nat→Obj)(w:World):laidKept (Adc w) (Ae g w)=true:=by kernel_rfl
theorem Arj(g:Nat→Obj)(w:World):(Ae g w).accountedOkI (importedModules A6.main.body)=true:=by kernel_rfl
theorem Pe(g:Nat→Obj)(w:World):(Ae g w).isNs mainGlobals=true:=by kernel_rfl
theorem Aaj(g:Nat→Obj)(w:World):(Ae g w).isNs builtinsNs=true:=by kernel_rfl
theorem Aj0(g:Nat→Obj)(w:World):(Ae g w).bltView=bltViewBooted:=by kernel_rfl
theorem Afi(g:Nat→Obj)(w:World):(Ae g w).bmainOk=true:=by kernel_rfl
theorem Anh(w:World):globalOf (Adc w) "__annotations__" = some (.ref 6):=by kernel_rfl
noncomputable def Iv:List Nat:=[0,1,4,5,7,8,9,10,11,12,13,14,15,16,17,18,19,20,21,22,23,24,25,26,27]
theorem Alo(g:Nat→Obj)(w:World):Iv.map (Zi g w.params).get=Iv.map (ts0 w.params).get:=by kernel_rfl
theorem Np:∀{l:List α},l.map f=l.map g→∀a∈l,f a=g a
 | [],_,_,h=>by cases h
 | b::l,e,a,h=>by
  simp only[map_cons,List.cons.injEq]at e
  rcases mem_cons.mp h with rfl | h
  ·exact e.1
  ·exact Np e.2 a h
theorem Am7(h:(absHeap t n life).get? a=some o):a < n:=by
 have:=Heap.lt_size h
 rwa [absHeap_size]at this
theorem Zy(b:Nat)(hb:b < 28)(h2:b≠2)(h3:b≠3)(h6:b≠6):b∈Iv:=by
 have h:(List.range 28).all (λb=>b==2||b==3||b==6||Iv.contains b)=true:=by decide +kernel
 have h1:=all_eq_true.mp h b (mem_range.mpr hb)
 rw[beq_false_of_ne h2,beq_false_of_ne h3,beq_false_of_ne h6]at h1
 exact contains_iff_mem.mp h1
theorem head(w:World):(∃s,AfterRun (opening A6) w s)∧∀s,AfterRun (opening A6) w s→∃s₀,fenceModules? A6 s=some s₀∧s₀.gens = #[]∧∃g os,Ack g∧TopRan A6 w s₀ (Hn g w os)∧(Hn g w os).asleep:=by
 have hi:importEnds table (opening A6) w 2000 (start (opening A6)).1 (start (opening A6)).2=some ⟨absHeap (tso w.params) 28 {},#[],{},276,(start (opening A6)).1.os⟩:=by
  rw[table_eq_tree,U6,PySem.W.Fast.te10274390034422433532]
  exact Ajs w
 have A:=AfterImport.of_importEnds hi
 refine⟨⟨_,A⟩,λs hs=>?_⟩
 obtain rfl:=AfterImport.unique hs A
 have hf:fenceModules? A6 ⟨absHeap (tso w.params) 28 {},#[],{},276,(start (opening A6)).1.os⟩=some (Em w (start (opening A6)).1.os):=by
  rw[PySem.W.Fast.te14289696077712309145]
  exact Ae0 w _
 have z:(Em w (start (opening A6)).1.os).asleep:=Shared.asleep_of_life (fence_lifeW hf) A.life
 refine⟨_,hf,rfl,?_⟩
 obtain⟨n,t,sF,h1,h2,g,hg,rfl⟩:=Ml (den:=denote table) (p:=A6) (w:=w) z (Ake w (start (opening A6)).1.os)
 have hm:=Pe g w
 refine⟨g,_,hg,⟨⟨n,t,h1,h2⟩,rfl,Shared.rest_eq rfl,fun(b:Nat) o hb hn=>?_,Heap.accountedI_of_ok (Arj g w),statics_of_ok (X8 g w),Pin.keysAreStrs_of hm,
  λx hx=>(Pin.builtinOf_eq (Aaj g w) x).trans (Heap.of_bltView (Aaj g w) (Aj0 g w) x hx),?_,λg h=>(by simp[Hn]at h),names_of_bound (Agm g w),laid_of_kept (Aj2 g w)⟩,Shared.asleep_of_life rfl z⟩
 ·have hb28:b < 28:=Am7 hb
  have hk:b∈Iv:=by
   have h2:b≠2:=λe=>hn (.inr (.inl (by rw[e];rfl)))
   have h3:b≠3:=λe=>hn (.inl (by rw[e];rfl))
   have h6:b≠6:=λe=>hn (.inr (.inr (by rw[e];exact Anh w)))
   exact Zy b hb28 h2 h3 h6
  have e:=Np (Alo g w) b hk
  have e0:(absHeap (Zi g w.params) 382 {}).get? b=(absHeap (ts0 w.params) 28 {}).get? b:=by
   unfold Heap.get?
   rw[absHeap_at,absHeap_at,if_pos (by lia),if_pos hb28,e]
  show(absHeap (Zi g w.params) 382 {}).get? b=some o
  rw[e0]
  exact hb
 ·refine Lm (Heap.bmainOk_spec (Afi g w)) λbm ob a _ c d f _=>?_
  refine⟨bm,ob,(Pin.globalOf_eq hm _).trans ?_,c,d,f⟩
  exact a
end
noncomputable section
open PySem PySem.W PySem.Calls PyProof.Rows PySem.Spec
set_option genInjectivity true in
inductive D where
 | none
 | bool (b:Bool)
 | int (i:Int)
 | str (x:Str)
 | tup (l:List D)
 | lst (l:List D)
noncomputable def Gi{α:Type}(b:Bool)(x:α):Option α:=bif b then some x else none
noncomputable def one{α:Type}:List α→Option α
 | [x]=>some x
 | _=>none
noncomputable def two{α:Type}:List α→Option (α×α)
 | [x,y]=>some (x,y)
 | _=>none
noncomputable def D.non(x:D):Bool:=D.casesOn (motive_1:=λ_=>Bool) x true (λ_=>false) (λ_=>false) (λ_=>false) (λ_=>false) (λ_=>false)
noncomputable def D.boo(x:D):Option Bool:=D.casesOn (motive_1:=λ_=>Option Bool) x Option.none Option.some (λ_=>Option.none) (λ_=>Option.none) (λ_=>Option.none) (λ_=>Option.none)
noncomputable def D.num(x:D):Option Int:=D.casesOn (motive_1:=λ_=>Option Int) x Option.none (λ_=>Option.none) Option.some (λ_=>Option.none) (λ_=>Option.none) (λ_=>Option.none)
noncomputable def D.txt(x:D):Option Str:=D.casesOn (motive_1:=λ_=>Option Str) x Option.none (λ_=>Option.none) (λ_=>Option.none) Option.some (λ_=>Option.none) (λ_=>Option.none)
noncomputable def D.tps(x:D):Option (List D):=D.casesOn (motive_1:=λ_=>Option (List D)) x Option.none (λ_=>Option.none) (λ_=>Option.none) (λ_=>Option.none) Option.some (λ_=>Option.none)
noncomputable def D.lis(x:D):Option (List D):=D.casesOn (motive_1:=λ_=>Option (List D)) x Option.none (λ_=>Option.none) (λ_=>Option.none) (λ_=>Option.none) (λ_=>Option.none) Option.some
set_option genInjectivity true in
inductive AV where
 | d (x:D)
 | cell (i:Nat)
 | hdr (i:Nat)
 | g (v:Value)
 | rng (n:Nat)
 | dstr (kvs:List (Str×D))
 | dint (kvs:List (Int×D))
 | iset (l:List Int)
noncomputable def asD(v:AV):Option D:=AV.casesOn (motive:=λ_=>Option D) v some (λ_=>none) (λ_=>none) (λ_=>none) (λ_=>none) (λ_=>none) (λ_=>none) (λ_=>none)
noncomputable def asC(v:AV):Option Nat:=AV.casesOn (motive:=λ_=>Option Nat) v (λ_=>none) some (λ_=>none) (λ_=>none) (λ_=>none) (λ_=>none) (λ_=>none) (λ_=>none)
noncomputable def asG(v:AV):Option Value:=AV.casesOn (motive:=λ_=>Option Value) v (λ_=>none) (λ_=>none) (λ_=>none) some (λ_=>none) (λ_=>none) (λ_=>none) (λ_=>none)
noncomputable def Aa9(v:AV):Option (List (Str×D)):=AV.casesOn (motive:=λ_=>Option (List (Str×D))) v (λ_=>none) (λ_=>none) (λ_=>none) (λ_=>none) (λ_=>none) some (λ_=>none) (λ_=>none)
noncomputable def Ac6(v:AV):Option (List (Int×D)):=AV.casesOn (motive:=λ_=>Option (List (Int×D))) v (λ_=>none) (λ_=>none) (λ_=>none) (λ_=>none) (λ_=>none) (λ_=>none) some (λ_=>none)
noncomputable def Ag7(v:AV):Option (List Int):=AV.casesOn (motive:=λ_=>Option (List Int)) v (λ_=>none) (λ_=>none) (λ_=>none) (λ_=>none) (λ_=>none) (λ_=>none) (λ_=>none) some
noncomputable def M2(v:AV):Option Int:=(asD v).bind D.num
noncomputable def S1(v:AV):Option Str:=(asD v).bind D.txt
set_option genInjectivity true in
inductive Ad where
 | m (xs:List D)
 | f (xs:List D)
noncomputable def Ad.items:Ad→List D
 | .m xs=>xs
 | .f xs=>xs
noncomputable def Ad.own(c:Ad):Option (List D):=Ad.casesOn (motive:=λ_=>Option (List D)) c some (λ_=>none)
noncomputable def celM(cel:List Ad)(i:Nat):Option (List D):=(cel[i]?).bind Ad.own
structure St where
 loc:List (Option AV)
 cel:List Ad
set_option genInjectivity true in
inductive Fl where
 | next
 | brk
 | cont
 | ret (v:AV)
noncomputable def ix(sc:Scope)(y:Str):Option Nat:=sc.names.findIdx? λp=>p.1==y
noncomputable def St.put(σ:St)(i:Nat)(v:AV):St:=⟨σ.loc.set i (some v),σ.cel⟩
noncomputable def St.setName(σ:St)(sc:Scope)(y:Str)(v:AV):Option St:=match sc.names.lookup y,ix sc y with
 | some .local,some i=>some (σ.put i v)
 | some .cell,some i=>some (σ.put i v)
 | _,_=>none
noncomputable def Aw(cel:List Ad):AV→Option (List D)
 | .d (.lst l)=>some l
 | .cell i=>(cel[i]?).map Ad.items
 | _=>none
noncomputable def toD(cel:List Ad):AV→Option (D×List Ad)
 | .d x=>some (x,cel)
 | .cell i=>match cel[i]? with
  | some c=>some (.lst c.items,cel.set i (.f c.items))
  | none=>none
 | _=>none
noncomputable def toDs(cel:List Ad):List AV→Option (List D×List Ad)
 | []=>some ([],cel)
 | v::vs=>match toD cel v with
  | some (d,cel)=>(toDs cel vs).map λr=>(d::r.1,r.2)
  | none=>none
noncomputable def Zk(f:D→D→Option Bool):List D→List D→Option Bool
 | [],m=>Gi m.isEmpty true
 | a::l,m=>m.casesOn none λb m=>(f a b).bind λx=>(Zk f l m).map λy=>x&&y
noncomputable def F8(f:D→D→Option Bool)(l m:List D):Option Bool:=if l.length=m.length then Zk f l m else some false
noncomputable def K6:Nat→D→D→Option Bool
 | 0,_,_=>none
 | n+1,a,b=>D.casesOn (motive_1:=λ_=>Option Bool) a (Gi b.non true) (λx=>b.boo.map (x == ·)) (λx=>b.num.map (x == ·)) (λx=>b.txt.map (x == ·)) (λ_=>none) (λl=>b.lis.bind (F8 (K6 n) l))
noncomputable def Yt:Nat→List D:=λn=>(List.range n).map fun(i:Nat)=>D.int (i:Int)
noncomputable def Ai(cel:List Ad):AV→Option (List D×List Ad)
 | .d (.lst l)=>some (l,cel)
 | .cell i=>match cel[i]? with
  | some c=>some (c.items,cel.set i (.f c.items))
  | none=>none
 | .rng n=>if n < 100000 then some (Yt n,cel)else none
 | .d (.str x)=>some (x.cps.toList.map λc=>.str ⟨#[c]⟩,cel)
 | _=>none
noncomputable def newCell(σ:St)(xs:List D):AV×St:=(.cell σ.cel.length,⟨σ.loc,σ.cel++[.m xs]⟩)
noncomputable def fits(n:Nat):Bool:=Nat.ble n 16000000
noncomputable def Aql(op:Operator)(x y:Int):Option Int:=match op with
 | .Add=>some (x+y)
 | .Sub=>some (x - y)
 | .BitOr=>some (Builtin.bitOr x y)
 | .BitAnd=>some (Builtin.bitAnd x y)
 | .BitXor=>some (Builtin.bitXor x y)
 | .LShift=>Gi (decide (0≤y∧y≤1000∧x.natAbs < 2 ^ 64)) (x*2 ^ y.toNat)
 | .RShift=>Gi (decide (0≤y)) (x.fdiv (2 ^ y.toNat))
 | .FloorDiv=>Gi (decide (y≠0∧y.natAbs < 1073741824)) (x.fdiv y)
 | .Mod=>Gi (decide (y≠0)) (x.fmod y)
 | _=>none
noncomputable def Ars(x y:Str):Option Str:=Gi (fits (x.length+y.length)) (x++y)
noncomputable def Ane(xs ys:List D):Option (List D):=Gi (fits (xs.length+ys.length)) (xs++ys)
noncomputable def Aih(op:Operator):Bool:=match op with
 | .Add=>true
 | _=>false
noncomputable def Amg(a b:AV)(cel:List Ad):Option (List D):=(Aw cel a).bind λxs=>(Aw cel b).bind λys=>Ane xs ys
noncomputable def Aut(a b:AV)(σ:St):Option (AV×St):=(S1 a).elim ((Amg a b σ.cel).map (newCell σ)) λx=>((S1 b).bind (Ars x)).map λz=>(.d (.str z),σ)
noncomputable def binop(op:Operator)(a b:AV)(σ:St):Option (AV×St):=(M2 a).elim (bif Aih op then Aut a b σ else none) λx=>((M2 b).bind (Aql op x)).map λz=>(.d (.int z),σ)
noncomputable def Dj:List D→Option (List Int)
 | []=>some []
 | .int i::r=>(Dj r).map (i :: ·)
 | _=>none
noncomputable def Uk(f:Int→Int→Bool)(a b:AV):Option Bool:=(M2 a).bind λx=>(M2 b).map (f x)
noncomputable def Ye(a b:AV):Option Bool:=(S1 a).bind λx=>(S1 b).map λy=>decide (x.cps.toList < y.cps.toList)
noncomputable def Agz(T:String)(v:AV):Bool:=(asG v).elim false λv=>match v with
 | .type t=>t==T
 | _=>false
noncomputable def Ahf(v:AV):Option Bool:=(asD v).elim ((asC v).map λ_=>false) λx=>bif x.non then some true else bif x.num.isSome||x.txt.isSome then some false else none
noncomputable def isC(T:String)(a b:AV):Option Bool:=(asD b).elim (Gi (Agz T a&&Agz T b) true) λx=>bif x.non then Ahf a else none
noncomputable def Yy(a b:AV):Option Bool:=(S1 a).bind λx=>(Aa9 b).map λkvs=>(kvs.lookup x).isSome
noncomputable def inL(x:Int)(b:AV)(cel:List Ad):Option Bool:=(Aw cel b).bind λl=>(Dj l).map λns=>ns.any (· == x)
noncomputable def inC(a b:AV)(cel:List Ad):Option Bool:=(M2 a).elim (Yy a b) λx=>(Ag7 b).elim (inL x b cel) λl=>some (l.contains x)
noncomputable def eqL(a b:AV)(cel:List Ad):Option Bool:=(Aw cel a).bind λx=>(Aw cel b).bind λy=>F8 (K6 4) x y
noncomputable def eqC(a b:AV)(cel:List Ad):Option Bool:=(asD a).elim (eqL a b cel) λx=>(asD b).elim (eqL a b cel) λy=>K6 5 x y
noncomputable def cmp(op:CmpOp)(a b:AV)(cel:List Ad):Option Bool:=match op with
 | .Lt=>(M2 a).elim (Ye a b) λx=>(M2 b).map λy=>decide (x < y)
 | .LtE=>Uk (λx y=>decide (x≤y)) a b
 | .Gt=>Uk (λx y=>decide (y < x)) a b
 | .GtE=>Uk (λx y=>decide (y≤x)) a b
 | .Is=>isC "str" a b
 | .IsNot=>(isC "list" a b).map (!·)
 | .In=>inC a b cel
 | .NotIn=>(Yy a b).map (!·)
 | .Eq=>eqC a b cel
 | .NotEq=>(eqC a b cel).map (!·)
noncomputable def Ef(i:Int)(n:Nat):Option Nat:=if 0≤i∧i < n∧i < 16000000 then some i.toNat else none
noncomputable def pick(xs:List D)(lo hi:Option Int):List D:=
 (sliceRange (sliceBounds lo hi none xs.length).1 (sliceBounds lo hi none xs.length).2.1 (sliceBounds lo hi none xs.length).2.2).filterMap (xs[·]?)
noncomputable def L7(l:List D)(k:Int):Option D:=(Ef k l.length).bind λp=>l[p]?
noncomputable def Aii(x:Str)(k:Int):Option D:=(Ef k x.cps.size).bind λp=>(x.cps.toList[p]?).map λc=>.str ⟨#[c]⟩
noncomputable def Aim(a:AV)(k:Int)(cel:List Ad):Option D:=(Ac6 a).elim ((S1 a).elim (((asD a).bind D.tps).elim ((Aw cel a).bind λl=>L7 l k) λl=>L7 l k) λx=>Aii x k) λkvs=>kvs.lookup k
noncomputable def Ais(a i:AV)(cel:List Ad):Option D:=(M2 i).elim ((S1 i).bind λy=>(Aa9 a).bind λkvs=>kvs.lookup y) λk=>Aim a k cel
noncomputable def item(a:AV)(i:AV)(cel:List Ad):Option AV:=(Ais a i cel).map .d
noncomputable def Al1(a:AV)(lo hi:Option Int)(cel:List Ad):Option (List D):=(Aw cel a).bind λxs=>Gi (fits xs.length) (pick xs lo hi)
noncomputable def cut(a:AV)(lo hi:Option Int)(σ:St):Option (AV×St):=(S1 a).elim ((Al1 a lo hi σ.cel).map (newCell σ)) λx=>(Gi (fits x.length) (Txt.slice x lo hi)).map λy=>(.d (.str y),σ)
noncomputable def Ia:List D→Option (List Str)
 | []=>some []
 | .str x::r=>(Ia r).map (x :: ·)
 | _=>none
noncomputable def Aze(x:Str):Bool:=x.cps.toList.all (· < 128)
noncomputable def Ao5(x:Str):Bool:=Nat.ble x.length 5000000
noncomputable def Aef:List Str:=[⟨#[115]⟩,⟨#[116]⟩,⟨#[115,116]⟩,⟨#[115,115]⟩,⟨#[126,115]⟩,⟨#[126,116]⟩,⟨#[126,115,116]⟩,⟨#[126,115,115]⟩]
noncomputable def Nh(x:Str):Bool:=Aef.contains x
noncomputable def R4:Value→Bool
 | .ref _=>true
 | .builtin _=>true
 | .type _=>true
 | _=>false
noncomputable def N2(name:Str):Option Addr:=if name==("add_header" : Str)then some 294 else if name==("get_all" : Str)then some 236 else none
noncomputable def Sf(xs:List D)(i:Nat)(v:D):List D:=xs.take i++v::xs.drop i
noncomputable def G9(i:Nat)(v:AV)(σ:St):Option (AV×St):=(toD σ.cel v).bind λr=>(celM r.2 i).bind λxs=>Gi (fits (xs.length+1)) (.d .none,⟨σ.loc,r.2.set i (.m (xs++[r.1]))⟩)
noncomputable def Hh(i:Nat)(k:Int)(x:D)(σ:St):Option (AV×St):=(celM σ.cel i).bind λxs=>Gi (decide (0≤k∧k≤xs.length∧xs.length < 1000000)) (.d .none,⟨σ.loc,σ.cel.set i (.m (Sf xs k.toNat x))⟩)
noncomputable def Xp(i:Nat)(σ:St):Option (AV×St):=(celM σ.cel i).bind λxs=>xs.getLast?.bind λx=>Gi (fits xs.length) (.d x,⟨σ.loc,σ.cel.set i (.m xs.dropLast)⟩)
noncomputable def Vi(sep:Str)(v:AV)(cel:List Ad):Option Str:=(Aw cel v).bind λl=>(Ia l).bind λys=>Gi (fits ((ys.map (·.length)).sum+ys.length*sep.length)) (Txt.join sep ys)
noncomputable def Ahi(a:AV)(args:List AV):Option D:=(Ac6 a).bind λkvs=>(one args).bind λv=>(M2 v).map λk=>(kvs.lookup k).getD .none
noncomputable def Nb(f:Str→Str)(a:AV)(args:List AV):Option D:=(S1 a).bind λx=>Gi (args.isEmpty&&Ao5 x) (.str (f x))
noncomputable def Aiy(v:Value):Option Addr:=match v with
 | .ref a=>some a
 | _=>none
noncomputable def Kd(a:AV)(args:List AV):Option D:=(asG a).bind λv=>(Aiy v).bind λb=>(one args).bind λu=>(S1 u).bind λx=>Gi ((b==163||b==168)&&Nh x) .none
noncomputable def meth(a:AV)(name:Str)(args:List AV)(σ:St):Option (AV×St):=
 if name==("append" : Str)then(asC a).bind λi=>(one args).bind λv=>G9 i v σ
 else if name==("insert" : Str)then(asC a).bind λi=>(two args).bind λp=>(M2 p.1).bind λk=>(asD p.2).bind λx=>Hh i k x σ
 else if name==("pop" : Str)then(asC a).bind λi=>bif args.isEmpty then Xp i σ else none
 else if name==("get" : Str)then(Ahi a args).map λx=>(.d x,σ)
 else if name==("join" : Str)then(S1 a).bind λx=>(one args).bind λv=>(Vi x v σ.cel).map λy=>(.d (.str y),σ)
 else if name==("lower" : Str)then(Nb Txt.lower a args).map λx=>(.d x,σ)
 else if name==("upper" : Str)then(Nb Txt.upper a args).map λx=>(.d x,σ)
 else if name==("search" : Str)then(Kd a args).map λx=>(.d x,σ)
 else none
noncomputable abbrev B8:=Value→List AV→List Ad→Option (AV×List Ad)
structure I where
 e:Scope→Expr→St→Option (AV×St)
 es:Scope→List Expr→St→Option (List AV×St)
 t:Scope→Expr→St→Option (Bool×St)
 s:Scope→Stmt→St→Option (Fl×St)
 ss:Scope→List Stmt→St→Option (Fl×St)
 w:Scope→Expr→List Stmt→St→Option (Fl×St)
noncomputable def Ig(t:Expr):Option Str:=match t with
 | .Name y _=>some y
 | _=>none
noncomputable def Ara(t:Expr):Option (List Expr):=match t with
 | .Tuple es _ _=>some es
 | _=>none
noncomputable def S0(sc:Scope)(t:Expr)(v:D)(σ:St):Option St:=(Ara t).bind λes=>(two es).bind λp=>(Ig p.1).bind λy=>(Ig p.2).bind λz=>v.tps.bind λl=>(two l).bind λq=>(σ.setName sc y (.d q.1)).bind λσ=>σ.setName sc z (.d q.2)
noncomputable def bindT(sc:Scope)(t:Expr)(v:D)(σ:St):Option St:=(Ig t).elim (S0 sc t v σ) λy=>σ.setName sc y (.d v)
noncomputable def H3(body:St→Option (Fl×St))(sc:Scope)(t:Expr):List D→St→Option (Fl×St)
 | [],σ=>some (.next,σ)
 | v::vs,σ=>(bindT sc t v σ).bind λσ=>(body σ).bind λr=>match r with
  | (.next,σ)=>H3 body sc t vs σ
  | (.cont,σ)=>H3 body sc t vs σ
  | (.brk,σ)=>some (.next,σ)
  | (.ret v,σ)=>some (.ret v,σ)
noncomputable def Iw(r:I)(sc:Scope):Option Expr→St→Option (Option Int×St)
 | none,σ=>some (none,σ)
 | some e,σ=>(r.e sc e σ).bind λx=>match x with
  | (.d (.int i),σ)=>some (some i,σ)
  | _=>none
noncomputable def C4:List (Option Expr)→Option (List Str)
 | []=>some []
 | some (.Constant (.str x) _ _)::ks=>(C4 ks).map (x :: ·)
 | _=>none
noncomputable def D4:List (Option Expr)→Option (List Int)
 | []=>some []
 | some (.Constant (.int x) _ _)::ks=>(D4 ks).map (x :: ·)
 | _=>none
noncomputable def Df{K:Type}[DecidableEq K](l:List K)(n:Nat):Bool:=l.length==n&&Nat.ble l.length 15 && !l.isEmpty&&decide l.Nodup
noncomputable def Hs(r:I)(sc:Scope)(elt:Expr)(i:Nat)(σ:St):Option St:=(r.e sc elt σ).bind λx=>(toD x.2.cel x.1).bind λy=>match y.2[i]? with
 | some (.m xs)=>match fits (xs.length+1)with
  | true=>some ⟨x.2.loc,y.2.set i (.m (xs++[y.1]))⟩
  | false=>none
 | _=>none
noncomputable def Fm(r:I)(sc:Scope):List Expr→St→Option (Bool×St)
 | [],σ=>some (true,σ)
 | [t],σ=>r.t sc t σ
 | _,_=>none
noncomputable def Cd(r:I)(sc:Scope)(elt:Expr)(i:Nat)(t:Expr)(ifs:List Expr):List D→St→Option St
 | [],σ=>some σ
 | v::vs,σ=>(bindT sc t v σ).bind λσ=>(Fm r sc ifs σ).bind λx=>match x with
  | (true,σ)=>(Hs r sc elt i σ).bind λσ=>Cd r sc elt i t ifs vs σ
  | (false,σ)=>Cd r sc elt i t ifs vs σ
noncomputable def Dt(r:I)(sc:Scope)(elt:Expr)(i:Nat)(t:Expr)(g:Comprehension):List D→St→Option St
 | [],σ=>some σ
 | v::vs,σ=>(bindT sc t v σ).bind λσ=>(r.e sc g.iter σ).bind λx=>(Ai x.2.cel x.1).bind λy=>
  (Cd r sc elt i g.target g.ifs y.1 ⟨x.2.loc,y.2⟩).bind λσ=>Dt r sc elt i t g vs σ
noncomputable def Cq(sc sc':Scope)(loc:List (Option AV)):List (Option AV):=sc'.names.map λp=>match p.2 with
 | .free=>(ix sc p.1).bind λi=>(loc[i]?).join
 | _=>none
noncomputable def Ex(sc sc':Scope):Bool:=decide (sc'.names.map (·.1)).Nodup&&sc'.kind == .function &&
 sc'.names.all λp=>p.2 != .cell&&p.1 != ("__debug__" : Str)&&(p.2 != .free||sc.names.lookup p.1==some .cell)
noncomputable def Cy:Expr→Bool
 | .Call .. => false
 | _=>true
noncomputable def Ai5(C:B8)(r:I)(sc:Scope)(a:Expr)(name:Str)(ap:Pos)(args:List Expr)(k:Keyword)(ks:List Keyword)(p:Pos)(σ:St):Option (AV×St):=match a with
 | .Name z zp=>match args with
  | [e]=>match ks with
   | []=>match k.arg with
    | some kn=>match k.value with
     | .Constant (.bool b) _ _=>if ap.endLine != p.line||name != ("_convert_string_type" : Str)||kn != ("name" : Str)then none else
      (r.e sc (.Name z zp) σ).bind λx=>(r.e sc e x.2).bind λy=>match x.1 with
       | .hdr i=>(C .none [.hdr i,y.1,.d (.bool b)] y.2.cel).map λz=>(z.1,⟨y.2.loc,z.2⟩)
       | _=>none
     | _=>none
    | none=>none
   | _=>none
  | _=>none
 | _=>none
noncomputable def Bx(G:List (Str×AV))(C:B8)(r:I)(sc:Scope):Expr→St→Option (AV×St)
 | .Constant (.int i) _ _,σ=>some (.d (.int i),σ)
 | .Constant (.str x) _ _,σ=>some (.d (.str x),σ)
 | .Constant .none _ _,σ=>some (.d .none,σ)
 | .Constant (.bool b) _ _,σ=>some (.d (.bool b),σ)
 | .Name y _,σ=>match sc.names.lookup y with
  | some .globalImplicit=>(G.lookup y).map (·,σ)
  | some .globalExplicit=>none
  | some _=>match ix sc y with
   | some i=>match σ.loc[i]? with
    | some (some v)=>some (v,σ)
    | _=>none
   | none=>none
  | none=>none
 | .UnaryOp .USub (.Constant (.int i) _ _) _,σ=>some (.d (.int (-i)),σ)
 | .BinOp a op b _,σ=>(r.e sc a σ).bind λx=>(r.e sc b x.2).bind λy=>binop op x.1 y.1 y.2
 | .Compare a [op] [b] _,σ=>(r.e sc a σ).bind λx=>(r.e sc b x.2).bind λy=>(cmp op x.1 y.1 y.2.cel).map λc=>(.d (.bool c),y.2)
 | .IfExp t a b _,σ=>(r.t sc t σ).bind λx=>match x with
  | (true,σ)=>r.e sc a σ
  | (false,σ)=>r.e sc b σ
 | .Subscript a (.Slice lo hi none _) _,σ=>(r.e sc a σ).bind λx=>(Iw r sc lo x.2).bind λy=>(Iw r sc hi y.2).bind λz=>cut x.1 y.1 z.1 z.2
 | .Subscript a i _,σ=>(r.e sc a σ).bind λx=>(r.e sc i x.2).bind λy=>(item x.1 y.1 y.2.cel).map (·,y.2)
 | .List es _,σ=>(r.es sc es σ).bind λx=>(toDs x.2.cel x.1).bind λy=>match fits y.1.length with
  | true=>some (newCell ⟨x.2.loc,y.2⟩ y.1)
  | false=>none
 | .Tuple es _ _,σ=>(r.es sc es σ).bind λx=>(toDs x.2.cel x.1).bind λy=>match fits y.1.length with
  | true=>some (.d (.tup y.1),⟨x.2.loc,y.2⟩)
  | false=>none
 | .Dict ks vs _,σ=>match C4 ks,D4 ks with
  | some l,_=>if Df l vs.length then(r.es sc vs σ).bind λx=>(toDs x.2.cel x.1).map λy=>(.dstr (l.zip y.1),⟨x.2.loc,y.2⟩)else none
  | none,some l=>if Df l vs.length then(r.es sc vs σ).bind λx=>(toDs x.2.cel x.1).map λy=>(.dint (l.zip y.1),⟨x.2.loc,y.2⟩)else none
  | none,none=>none
 | .Call (.Attribute a name ap) args [] p,σ=>if ap.endLine != p.line || !Cy a||Nat.ble 29 args.length then none else(r.e sc a σ).bind λx=>(r.es sc args x.2).bind λy=>match x.1 with
  | .hdr i=>(N2 name).bind λf=>(C (.ref f) (.hdr i::y.1) y.2.cel).map λz=>(z.1,⟨y.2.loc,z.2⟩)
  | v=>meth v name y.1 y.2
 | .Call (.Attribute a name ap) args (k::ks) p,σ=>Ai5 C r sc a name ap args k ks p σ
 | .Attribute (.Name z zp) name _,σ=>if name != ("_headers" : Str)then none else(r.e sc (.Name z zp) σ).bind λx=>match x.1 with
  | .hdr i=>some (.cell i,x.2)
  | _=>none
 | .Call (.Name f p) args [] _,σ=>(r.e sc (.Name f p) σ).bind λx=>(r.es sc args x.2).bind λy=>match x.1 with
  | .g v=>if R4 v then(C v y.1 y.2.cel).map λz=>(z.1,⟨y.2.loc,z.2⟩)else none
  | _=>none
 | .ListComp elt [g] sc' _,σ=>if !Ex sc sc'||g.is_async != 0 then none else(r.e sc g.iter σ).bind λx=>(Ai x.2.cel x.1).bind λy=>
   (Cd r sc' elt y.2.length g.target g.ifs y.1 ⟨Cq sc sc' x.2.loc,y.2++[.m []]⟩).map λσ'=>(.cell y.2.length,⟨x.2.loc,σ'.cel⟩)
 | .ListComp elt [g,g'] sc' _,σ=>if !Ex sc sc'||g.is_async != 0||g'.is_async != 0 then none else(r.e sc g.iter σ).bind λx=>(Ai x.2.cel x.1).bind λy=>match g.ifs with
   | []=>(Dt r sc' elt y.2.length g.target g' y.1 ⟨Cq sc sc' x.2.loc,y.2++[.m []]⟩).map λσ'=>(.cell y.2.length,⟨x.2.loc,σ'.cel⟩)
   | _=>none
 | _,_=>none
noncomputable def Jq(r:I)(sc:Scope):Expr→St→Option (Bool×St)
 | .UnaryOp .Not e _,σ=>(r.t sc e σ).map λx=>(!x.1,x.2)
 | .BoolOp .And [a,b] _,σ=>(r.t sc a σ).bind λx=>match x with
  | (true,σ)=>r.t sc b σ
  | (false,σ)=>some (false,σ)
 | .BoolOp .Or [a,b] _,σ=>(r.t sc a σ).bind λx=>match x with
  | (true,σ)=>some (true,σ)
  | (false,σ)=>r.t sc b σ
 | .Compare a ops bs p,σ=>(r.e sc (.Compare a ops bs p) σ).bind λx=>match x with
  | (.d (.bool c),σ)=>some (c,σ)
  | _=>none
 | .Call f as ks p,σ=>(r.e sc (.Call f as ks p) σ).bind λx=>match x with
  | (.d (.bool c),σ)=>some (c,σ)
  | (.d .none,σ)=>some (false,σ)
  | _=>none
 | .Name y p,σ=>(r.e sc (.Name y p) σ).bind λx=>match x with
  | (.d (.bool c),σ)=>some (c,σ)
  | _=>none
 | _,_=>none
noncomputable def Ay9(r:I)(sc:Scope)(t e:Expr)(σ:St):Option (Fl×St):=match t with
 | .Name y _=>(r.e sc e σ).bind λx=>(x.2.setName sc y x.1).map (.next,·)
 | .Subscript a i _=>match i with
  | .Slice none none none _=>(r.e sc e σ).bind λx=>(r.e sc a x.2).bind λy=>match x.1,y.1 with
   | .cell j,.cell i=>match y.2.cel[j]?,y.2.cel[i]? with
    | some c,some (.m xs)=>if fits (xs.length+c.items.length)then some (.next,⟨y.2.loc,y.2.cel.set i (.m c.items)⟩)else none
    | _,_=>none
   | _,_=>none
  | i=>(r.e sc e σ).bind λx=>(r.e sc a x.2).bind λy=>(r.e sc i y.2).bind λz=>match x.1,y.1,z.1 with
   | .d v,.cell i,.d (.int k)=>match z.2.cel[i]? with
    | some (.m xs)=>(Ef k xs.length).map λp=>(.next,⟨z.2.loc,z.2.cel.set i (.m (xs.set p v))⟩)
    | _=>none
   | _,_,_=>none
 | _=>none
noncomputable def Awy(r:I)(sc:Scope)(t it:Expr)(b:List Stmt)(σ:St):Option (Fl×St):=match it with
 | .Call (.Attribute a nm ap) [] [] p=>if ap.endLine != p.line || !Cy a||nm != ("items" : Str)then none else(r.e sc a σ).bind λx=>match x.1 with
  | .dstr []=>some (.next,x.2)
  | _=>none
 | it=>(r.e sc it σ).bind λx=>(Ai x.2.cel x.1).bind λy=>H3 (r.ss sc b) sc t y.1 ⟨x.2.loc,y.2⟩
noncomputable def Ec(r:I)(sc:Scope):Stmt→St→Option (Fl×St)
 | .Pass _,σ=>some (.next,σ)
 | .Return (some e) _,σ=>(r.e sc e σ).map λx=>(.ret x.1,x.2)
 | .Expr e _,σ=>(r.e sc e σ).bind λx=>match x with
  | (.d .none,σ)=>some (.next,σ)
  | (.d (.int _),σ)=>some (.next,σ)
  | _=>none
 | .Assign [t] e _,σ=>Ay9 r sc t e σ
 | .If t a b _,σ=>(r.t sc t σ).bind λx=>match x with
  | (true,σ)=>r.ss sc a σ
  | (false,σ)=>r.ss sc b σ
 | .While t b [] _,σ=>r.w sc t b σ
 | .For t it b [] _,σ=>Awy r sc t it b σ
 | _,_=>none
noncomputable def Ba(G:List (Str×AV))(C:B8):Nat→I
 | 0=>⟨λ_ _ _=>none,λ_ _ _=>none,λ_ _ _=>none,λ_ _ _=>none,λ_ _ _=>none,λ_ _ _ _=>none⟩
 | n+1=>
  let r:=Ba G C n
  {e:=Bx G C r
   es:=λsc es σ=>match es with
    | []=>some ([],σ)
    | e::rest=>(r.e sc e σ).bind λx=>(r.es sc rest x.2).map λy=>(x.1::y.1,y.2)
   t:=Jq r
   s:=Ec r
   ss:=λsc l σ=>match l with
    | []=>some (.next,σ)
    | st::rest=>(r.s sc st σ).bind λx=>match x with
     | (.next,σ)=>r.ss sc rest σ
     | x=>some x
   w:=λsc t b σ=>(r.t sc t σ).bind λx=>match x with
    | (true,σ)=>(r.ss sc b σ).bind λy=>match y with
     | (.next,σ)=>r.w sc t b σ
     | (.cont,σ)=>r.w sc t b σ
     | (.brk,σ)=>some (.next,σ)
     | (.ret v,σ)=>some (.ret v,σ)
    | (false,σ)=>some (.next,σ)}
structure B6 where
 body:List Stmt
 sc:Scope
 params:List Str
 dflt:List (Str×AV)
noncomputable def bindArgs(f:B6)(args:List AV):Option (List (Option AV)):=
 if args.length≤f.params.length∧(f.params.drop args.length).all (λp=>(f.dflt.lookup p).isSome)=true∧((f.params.take args.length).all (λp=>(f.dflt.lookup p).isNone)=true∨args.length=4)then
  some (f.sc.names.map λp=>match (f.params.zip args).lookup p.1 with
   | some v=>some v
   | none=>f.dflt.lookup p.1)
 else none
noncomputable def Am1(i:Int):Option D:=if 0≤i∧i < 1114112 then some (.str ⟨#[i.toNat]⟩)else none
noncomputable def D6(l:List Int):List Int:=l.mergeSort λa b=>decide (a≤b)
noncomputable def Qi(a:AV)(cel:List Ad):Option Nat:=(S1 a).elim ((Aw cel a).map List.length) λx=>some x.length
noncomputable def Ai7(a:AV)(cel:List Ad):Option (List D):=(Aw cel a).bind λl=>(Dj l).bind λx=>Gi (Nat.ble l.length 60) ((D6 x).map .int)
noncomputable def bD(id:String)(a:AV)(cel:List Ad):Option D:=
 if id == "len" then(Qi a cel).bind λn=>Gi (fits n) (.int n)
 else if id == "ord" then(S1 a).bind λx=>(one x.cps.toList).map fun(c:Nat)=>D.int (c:Int)
 else if id == "chr" then(M2 a).bind Am1
 else none
noncomputable def G2(id:String)(args:List AV)(cel:List Ad):Option (AV×List Ad):=(one args).bind λa=>if id == "sorted" then(Ai7 a cel).map λl=>(.cell cel.length,cel++[.m l])else(bD id a cel).map λx=>(.d x,cel)
noncomputable def Lw(a:AV):Option AV:=(M2 a).bind λi=>Gi (decide (0≤i∧i < 1000)) (.rng i.toNat)
noncomputable def Qp(a:AV):Option AV:=(S1 a).elim ((asC a).map λ_=>.g (.type "list")) λ_=>some (.g (.type "str"))
noncomputable def N3(id:String)(args:List AV)(cel:List Ad):Option (AV×List Ad):=(one args).bind λa=>(if id == "range" then Lw a else if id == "type" then Qp a else none).map λv=>(v,cel)
noncomputable def Fp(G:List (Str×AV))(N:Nat)(C:B8)(fn:B6)(args:List AV)(cel:List Ad):Option (AV×List Ad):=
 (bindArgs fn args).bind λloc=>((Ba G C N).ss fn.sc fn.body ⟨loc,cel⟩).bind λx=>match x with
   | (.ret v,σ)=>some (v,σ.cel)
   | (.next,σ)=>some (.d .none,σ.cel)
   | _=>none
noncomputable def Cu(G:List (Str×AV))(N:Nat)(FT:List (Addr×B6))(hd:Addr)(C:B8):B8:=λf args cel=>match f with
 | .builtin id=>G2 id args cel
 | .type id=>N3 id args cel
 | .none=>(FT.lookup 198).bind λfn=>Fp G N C fn args cel
 | .ref a=>if a=hd then cond args.isEmpty (some (.hdr cel.length,cel++[.m []])) none else if a=198 then none else(FT.lookup a).bind λfn=>Fp G N C fn args cel
 | _=>none
theorem Vl{N:Nat}{hd:Addr}{P:Value→Prop}(h:Cu G N FT hd C f args cel=some x)
  (h1:∀id,G2 id args cel=some x→P (.builtin id)) (h2:∀id,N3 id args cel=some x→P (.type id)) (h3:∀fn,FT.lookup 198=some fn→Fp G N C fn args cel=some x→P .none)
  (h4:args=[]→some (.hdr cel.length,cel++[.m []])=some x→P (.ref hd)) (h5:∀a fn,a≠hd→a≠198→FT.lookup a=some fn→Fp G N C fn args cel=some x→P (.ref a)):P f:=by
 induction f using Value.casesOn with
 | builtin id=>exact h1 id h
 | type id=>exact h2 id h
 | none=>exact Ay h h3
 | ref a=>
  have h:(if a=hd then cond args.isEmpty (some (.hdr cel.length,cel++[.m []])) none else if a=198 then none else(FT.lookup a).bind λfn=>Fp G N C fn args cel)=some x:=h
  by_cases e:a=hd
  ·rw[if_pos e]at h
   rcases args with _ | ⟨b,l⟩
   ·exact e▸h4 rfl h
   ·exact Am h
  ·rw[if_neg e]at h
   by_cases e':a=198
   ·rw[if_pos e']at h;exact Am h
   ·rw[if_neg e']at h;exact Ay h λfn=>h5 a fn e e'
 | _=>exact Am h
theorem Zw(h1:a≠hd)(h2:a≠198)(h:FT.lookup a=some fn):Cu G N FT hd C (.ref a) args cel=Fp G N C fn args cel:=by
 show(if a=hd then _ else if a=198 then none else(FT.lookup a).bind _)=_
 rw[if_neg h1,if_neg h2,h];rfl
theorem Adf:Cu G N FT hd C (.ref hd) [] cel=some (.hdr cel.length,cel++[.m []]):=if_pos rfl
noncomputable def U3(G:List (Str×AV))(N:Nat)(FT:List (Addr×B6))(hd:Addr):Nat→B8
 | 0=>λ_ _ _=>none
 | n+1=>Cu G N FT hd (U3 G N FT hd n)
theorem bd(h:o.bind f=some b):∃a,o=some a∧f a=some b:=bind_eq_some_iff.mp h
theorem md(h:o.map f=some b):∃a,o=some a∧f a=b:=map_eq_some_iff.mp h
theorem el(h:o.elim b f=some r):(o=none∧b=some r)∨∃x,o=some x∧f x=some r:=
 o.casesOn (motive:=λo=>o.elim b f=some r→(o=none∧b=some r)∨∃x,o=some x∧f x=some r) (λh=>.inl ⟨rfl,h⟩) (λx h=>.inr ⟨x,rfl,h⟩) h
theorem cd(h:(bif c then x else none)=some y):c=true∧x=some y:=
 c.casesOn (motive:=λc=>(bif c then x else none)=some y→c=true∧x=some y) (λh=>nomatch h) (λh=>⟨rfl,h⟩) h
theorem Bf(h:Gi c x=some y):c=true∧x=y:=(cd h).imp_right Option.some.inj
theorem iq{α β:Type}[BEq β][LawfulBEq β]{x y:β}{a b:Option α}{r:α}(h:(if x==y then a else b)=some r):(x=y∧a=some r)∨b=some r:=by
 cases e:x==y
 ·rw[e]at h;exact .inr h
 ·rw[e]at h;exact .inl ⟨eq_of_beq e,h⟩
theorem E8(h:one l=some x):l=[x]:=match l,h with
 | [_],rfl=>rfl
theorem Kf(h:two l=some p):l=[p.1,p.2]:=match l,h with
 | [_,_],rfl=>rfl
theorem D.non_inv{x:D}(h:x.non=true):x = .none:=by rcases x<;>first | rfl | exact Ff h
theorem D.boo_inv{x:D}{b:Bool}(h:x.boo=some b):x = .bool b:=by rcases x<;>cases h;rfl
theorem D.num_inv{x:D}{b:Int}(h:x.num=some b):x = .int b:=by rcases x<;>cases h;rfl
theorem D.txt_inv{x:D}{b:Str}(h:x.txt=some b):x = .str b:=by rcases x<;>cases h;rfl
theorem D.tps_inv{x:D}{b:List D}(h:x.tps=some b):x = .tup b:=by rcases x<;>cases h;rfl
theorem D.lis_inv{x:D}{b:List D}(h:x.lis=some b):x = .lst b:=by rcases x<;>cases h;rfl
theorem Fa(h:asD a=some x):a = .d x:=by rcases a<;>cases h;rfl
theorem Ie(h:asC a=some x):a = .cell x:=by rcases a<;>cases h;rfl
theorem Ah4(h:asG a=some x):a = .g x:=by rcases a<;>cases h;rfl
theorem Q6(h:Aa9 a=some x):a = .dstr x:=by rcases a<;>cases h;rfl
theorem Qa(h:Ac6 a=some x):a = .dint x:=by rcases a<;>cases h;rfl
theorem Ab9(h:Ag7 a=some x):a = .iset x:=by rcases a<;>cases h;rfl
theorem D2(h:M2 a=some i):a = .d (.int i):=(bd h).elim λ_ h=>(Fa h.1).trans (congrArg AV.d (D.num_inv h.2))
theorem Cn(h:S1 a=some x):a = .d (.str x):=(bd h).elim λ_ h=>(Fa h.1).trans (congrArg AV.d (D.txt_inv h.2))
theorem X2(h:Aiy v=some a):v = .ref a:=by
 rcases v<;>cases h;rfl
theorem Gd(h:Ig t=some y):∃p,t = .Name y p:=by
 refine Classical.byContradiction λhn=>?_
 induction t using Expr.casesOn with
 | Name=>exact hn (Option.some.inj h▸⟨_,rfl⟩)
 | _=>exact Am h
theorem Abs(h:Ara t=some es):∃n p,t = .Tuple es n p:=by
 refine Classical.byContradiction λhn=>?_
 induction t using Expr.casesOn with
 | Tuple=>exact hn (Option.some.inj h▸⟨_,_,rfl⟩)
 | _=>exact Am h
theorem Ad.own_inv{c:Ad}{xs:List D}(h:c.own=some xs):c = .m xs:=by rcases c<;>cases h;rfl
theorem G1(h:celM cel i=some xs):cel[i]? = some (.m xs):=(bd h).elim λ_ h=>h.1.trans (congrArg some (Ad.own_inv h.2))
theorem Ko(h:cel[i]? = some (.m xs)):celM cel i=some xs:=by
 show(cel[i]?).bind _=_
 rw[h];rfl
theorem Fx(h:Aw cel a=some l):a = .d (.lst l)∨∃i,a = .cell i∧(cel[i]?).map Ad.items=some l:=by
 induction a with
 | d x=>rcases x<;>cases h;exact .inl rfl
 | cell i=>exact .inr ⟨i,rfl,h⟩
 | _=>exact Am h
theorem Ae2(h:Aw cel a=some l):item a (.d (.int k)) cel=(L7 l k).map .d:=by
 rcases Fx h with rfl | ⟨i,rfl,e⟩
 ·rfl
 ·show(((cel[i]?).map Ad.items).bind λl=>L7 l k).map AV.d=_
  rw[e];rfl
theorem Agd(h:Aw cel a=some l):Qi a cel=some l.length:=by
 rcases Fx h with rfl | ⟨i,rfl,e⟩
 ·rfl
 ·show((cel[i]?).map Ad.items).map List.length=_
  rw[e];rfl
theorem By(h:cel[i]? = some c):Aw cel (.cell i)=some c.items:=congrArg (Option.map Ad.items) h
theorem Ad0(h1:Aw cel a=some x)(h2:Aw cel b=some y):eqC a b cel=F8 (K6 4) x y:=by
 have k:eqL a b cel=F8 (K6 4) x y:=by
  show(Aw cel a).bind _=_
  rw[h1]
  rw[h2];rfl
 rcases Fx h1 with rfl | ⟨i,rfl,_⟩
 ·rcases Fx h2 with rfl | ⟨i,rfl,_⟩
  ·rfl
  ·exact k
 ·exact k
theorem Tz(h1:Aw cel a=some x)(h2:Aw cel b=some y):cmp .NotEq a b cel=(F8 (K6 4) x y).map (!·):=congrArg (Option.map _) (Ad0 h1 h2)
theorem Aj6(h1:Aw cel a=some l)(h2:Dj l=some ns):cmp .In (.d (.int x)) a cel=some (ns.any (· == x)):=by
 have k:inL x a cel=some (ns.any (· == x)):=by
  show(Aw cel a).bind _=_
  rw[h1]
  show(Dj l).map _=_
  rw[h2];rfl
 rcases Fx h1 with rfl | ⟨i,rfl,_⟩<;>exact k
theorem Agu(h1:Aw σ.cel a=some x)(h2:Aw σ.cel b=some y)(hf:fits (x.length+y.length)=true):binop .Add a b σ=some (newCell σ (x++y)):=by
 have k:(Amg a b σ.cel).map (newCell σ)=some (newCell σ (x++y)):=by
  delta Amg Ane
  rw[h1,bind_some,h2,bind_some,hf];rfl
 rcases Fx h1 with rfl | ⟨i,rfl,_⟩<;>exact k
theorem Rd{σ:St}{a:AV}{lo hi:Option Int}{x:List D}(h1:Aw σ.cel a=some x)(hf:fits x.length=true):cut a lo hi σ=some (newCell σ (pick x lo hi)):=by
 have k:(Al1 a lo hi σ.cel).map (newCell σ)=some (newCell σ (pick x lo hi)):=by
  delta Al1
  rw[h1,bind_some,hf];rfl
 rcases Fx h1 with rfl | ⟨i,rfl,_⟩<;>exact k
theorem Sq(ht:toD σ.cel v=some (x,cel))(h:cel[k]? = some (.m xs))(hf:fits (xs.length+1)=true):meth (.cell k) "append" [v] σ=some (.d .none,⟨σ.loc,cel.set k (.m (xs++[x]))⟩):=by
 show G9 k v σ=_
 unfold G9
 rw[ht,bind_some,Ko h,bind_some,hf];rfl
theorem Aal(h:σ.cel[k]? = some (.m xs))(hl:xs.getLast? = some x)(hf:fits xs.length=true):meth (.cell k) "pop" [] σ=some (.d x,⟨σ.loc,σ.cel.set k (.m xs.dropLast)⟩):=by
 show Xp k σ=_
 unfold Xp
 rw[Ko h,bind_some,hl,bind_some,hf];rfl
theorem Aba{k r:Nat}(h:σ.cel[k]? = some (.m xs))(h1:r≤xs.length)(h2:xs.length < 1000000):meth (.cell k) "insert" [.d (.int r),.d x] σ=some (.d .none,⟨σ.loc,σ.cel.set k (.m (Sf xs r x))⟩):=by
 show Hh k r x σ=_
 unfold Hh
 rw[Ko h,bind_some,decide_eq_true ⟨Int.natCast_nonneg r,Int.ofNat_le.mpr h1,h2⟩];rfl
theorem Aai(h1:Aw σ.cel v=some l)(h2:Ia l=some ys)(hf:fits ((ys.map (·.length)).sum+ys.length*sep.length)=true):meth (.d (.str sep)) "join" [v] σ=some (.d (.str (Txt.join sep ys)),σ):=by
 show(Vi sep v σ.cel).map _=_
 unfold Vi
 rw[h1,bind_some,h2,bind_some,hf];rfl
set_option tactic.hygienic true in
theorem Q2(h:Agz T v=true):v = .g (.type T):=by
 rcases v<;>first | cases h | skip
 rename_i v
 rcases v<;>first | cases h | exact congrArg (λt=>AV.g (.type t)) (eq_of_beq h)
noncomputable def D1:List (Str×D):=[(⟨⟨[33]⟩⟩,.int 54),(⟨⟨[33,61]⟩⟩,.int 28),(⟨⟨[37]⟩⟩,.int 24),(⟨⟨[37,61]⟩⟩,.int 40),(⟨⟨[38]⟩⟩,.int 19),(⟨⟨[38,61]⟩⟩,.int 41),(⟨⟨[40]⟩⟩,.int 7),(⟨⟨[41]⟩⟩,.int 8),(⟨⟨[42]⟩⟩,.int 16),(⟨⟨[42,42]⟩⟩,.int 35),(⟨⟨[42,42,61]⟩⟩,.int 46),(⟨⟨[42,61]⟩⟩,.int 38),(⟨⟨[43]⟩⟩,.int 14),(⟨⟨[43,61]⟩⟩,.int 36),(⟨⟨[44]⟩⟩,.int 12),(⟨⟨[45]⟩⟩,.int 15),(⟨⟨[45,61]⟩⟩,.int 37),(⟨⟨[45,62]⟩⟩,.int 51),(⟨⟨[46]⟩⟩,.int 23),(⟨⟨[46,46,46]⟩⟩,.int 52),(⟨⟨[47]⟩⟩,.int 17),(⟨⟨[47,47]⟩⟩,.int 47),(⟨⟨[47,47,61]⟩⟩,.int 48),(⟨⟨[47,61]⟩⟩,.int 39),(⟨⟨[58]⟩⟩,.int 11),(⟨⟨[58,61]⟩⟩,.int 53),(⟨⟨[59]⟩⟩,.int 13),(⟨⟨[60]⟩⟩,.int 20),(⟨⟨[60,60]⟩⟩,.int 33),(⟨⟨[60,60,61]⟩⟩,.int 44),(⟨⟨[60,61]⟩⟩,.int 29),(⟨⟨[61]⟩⟩,.int 22),(⟨⟨[61,61]⟩⟩,.int 27),(⟨⟨[62]⟩⟩,.int 21),(⟨⟨[62,61]⟩⟩,.int 30),(⟨⟨[62,62]⟩⟩,.int 34),(⟨⟨[62,62,61]⟩⟩,.int 45),(⟨⟨[64]⟩⟩,.int 49),(⟨⟨[64,61]⟩⟩,.int 50),(⟨⟨[91]⟩⟩,.int 9),(⟨⟨[93]⟩⟩,.int 10),(⟨⟨[94]⟩⟩,.int 32),(⟨⟨[94,61]⟩⟩,.int 43),(⟨⟨[123]⟩⟩,.int 25),(⟨⟨[124]⟩⟩,.int 18),(⟨⟨[124,61]⟩⟩,.int 42),(⟨⟨[125]⟩⟩,.int 26),(⟨⟨[126]⟩⟩,.int 31)]
noncomputable def b3T:List (Int×D):=Mf.map λp=>(p.1,.str p.2)
noncomputable def b1T:List Int:=[173,847,6150,6155,6156,6157,8203,8204,8205,8288,65279,65024,65025,65026,65027,65028,65029,65030,65031,65032,65033,65034,65035,65036,65037,65038,65039]
noncomputable def G3:List (Str×AV):=[(⟨⟨[98,105,115,101,99,116,95,114,105,103,104,116]⟩⟩,.g (.ref 47)),
 (⟨⟨[105,110,115,111,114,116,95,108,101,102,116]⟩⟩,.g (.ref 56)),
 (⟨⟨[98,105,115,101,99,116,95,108,101,102,116]⟩⟩,.g (.ref 65)),
 (⟨⟨[105,110,95,116,97,98,108,101,95,98,49]⟩⟩,.g (.ref 83)),
 (⟨⟨[109,97,112,95,116,97,98,108,101,95,98,51]⟩⟩,.g (.ref 129)),
 (⟨⟨[73,83,84,69,82,77,73,78,65,76]⟩⟩,.g (.ref 139)),
 (⟨⟨[73,83,78,79,78,84,69,82,77,73,78,65,76]⟩⟩,.g (.ref 146)),
 (⟨⟨[73,83,69,79,70]⟩⟩,.g (.ref 153)),
 (⟨⟨[72,101,97,100,101,114,115]⟩⟩,.g (.ref 297)),
 (⟨⟨[95,108,97,119,95,111,112,112,111,115,105,116,101]⟩⟩,.g (.ref 308)),
 (⟨⟨[95,108,97,119,95,100,114,97,119,110]⟩⟩,.g (.ref 315)),
 (⟨⟨[95,108,97,119,95,116,114,117,116,104]⟩⟩,.g (.ref 322)),
 (⟨⟨[95,108,97,119,95,107,101,101,112,115]⟩⟩,.g (.ref 329)),
 (⟨⟨[95,108,97,119,95,112,114,101,112,97,114,101,100]⟩⟩,.g (.ref 336)),
 (⟨⟨[95,108,97,119,95,112,105,101,99,101,115]⟩⟩,.g (.ref 343)),
 (⟨⟨[95,108,97,119,95,110,97,109,101,115]⟩⟩,.g (.ref 350)),
 (⟨⟨[95,108,97,119,95,114,117,108,101,115]⟩⟩,.g (.ref 357)),
 (⟨⟨[95,108,97,119,95,115,116,101,112,115]⟩⟩,.g (.ref 364)),
 (⟨⟨[95,108,97,119,95,115,101,97,114,99,104]⟩⟩,.g (.ref 371)),
 (⟨⟨[95,108,97,119,95,114,105,103,104,116]⟩⟩,.g (.ref 376)),
 (⟨⟨[108,97,119]⟩⟩,.g (.ref 381)),
 (⟨⟨[108,101,110]⟩⟩,.g (.builtin "len")),
 (⟨⟨[111,114,100]⟩⟩,.g (.builtin "ord")),
 (⟨⟨[99,104,114]⟩⟩,.g (.builtin "chr")),
 (⟨⟨[114,97,110,103,101]⟩⟩,.g (.type "range")),
 (⟨⟨[115,111,114,116,101,100]⟩⟩,.g (.builtin "sorted")),
 (⟨⟨[116,121,112,101]⟩⟩,.g (.type "type")),
 (⟨⟨[115,116,114]⟩⟩,.g (.type "str")),
 (⟨⟨[108,105,115,116]⟩⟩,.g (.type "list")),
 (⟨⟨[95,110,97,109,101,95,100,105,115,97,108,108,111,119,101,100,95,114,101]⟩⟩,.g (.ref 163)),
 (⟨⟨[95,118,97,108,117,101,95,100,105,115,97,108,108,111,119,101,100,95,114,101]⟩⟩,.g (.ref 168)),
 (⟨⟨[78,84,95,79,70,70,83,69,84]⟩⟩,.d (.int 256)),
 (⟨⟨[69,78,68,77,65,82,75,69,82]⟩⟩,.d (.int 0)),
 (⟨⟨[69,88,65,67,84,95,84,79,75,69,78,95,84,89,80,69,83]⟩⟩,.dstr D1),
 (⟨⟨[98,51,95,101,120,99,101,112,116,105,111,110,115]⟩⟩,.dint b3T),
 (⟨⟨[98,49,95,115,101,116]⟩⟩,.iset b1T)]
noncomputable def Az(i:Nat)(dflt:List (Str×AV)):B6:=⟨Ft (st i),Ke (st i),(fnP (st i)).args.map (·.arg),dflt⟩
noncomputable def fnc(i:Nat)(dflt:List (Str×AV)):B6:=⟨Ft (Fg 70 i),Ke (Fg 70 i),(fnP (Fg 70 i)).args.map (·.arg),dflt⟩
noncomputable def Ht:List (Addr×B6):=[(47,Az 2 [(⟨⟨[108,111]⟩⟩,.d (.int 0)),(⟨⟨[104,105]⟩⟩,.d .none),(⟨⟨[107,101,121]⟩⟩,.d .none)]),
 (56,Az 3 [(⟨⟨[108,111]⟩⟩,.d (.int 0)),(⟨⟨[104,105]⟩⟩,.d .none),(⟨⟨[107,101,121]⟩⟩,.d .none)]),
 (65,Az 4 [(⟨⟨[108,111]⟩⟩,.d (.int 0)),(⟨⟨[104,105]⟩⟩,.d .none),(⟨⟨[107,101,121]⟩⟩,.d .none)]),
 (83,Az 7 []),
 (129,Az 9 []),
 (139,Az 62 []),
 (146,Az 63 []),
 (153,Az 64 []),
 (198,⟨Ft (Fg 70 1),Ke (Fg 70 1),[⟨⟨[115,101,108,102]⟩⟩,⟨⟨[118,97,108,117,101]⟩⟩,⟨⟨[110,97,109,101]⟩⟩],[]⟩),
 (236,fnc 7 []),
 (294,fnc 16 [(⟨⟨[95,112,97,114,97,109,115]⟩⟩,.dstr [])]),
 (308,Az 72 []),
 (315,Az 73 []),
 (322,Az 74 []),
 (329,Az 75 []),
 (336,Az 76 []),
 (343,Az 77 []),
 (350,Az 78 []),
 (357,Az 79 []),
 (364,Az 80 []),
 (371,Az 81 []),
 (376,Az 82 []),
 (381,Az 83 [])]
noncomputable def Gu(N n:Nat):B8:=U3 G3 N Ht 297 n
end
noncomputable section
open PySem
inductive SE(G:List (Str×AV))(C:B8)(r:I)(sc:Scope):Expr→St→AV→St→Prop
 | int {i:Int} {n:Nat} {p:Pos} {σ:St}:SE G C r sc (.Constant (.int i) n p) σ (.d (.int i)) σ
 | str {x:Str} {n:Nat} {p:Pos} {σ:St}:SE G C r sc (.Constant (.str x) n p) σ (.d (.str x)) σ
 | non {n:Nat} {p:Pos} {σ:St}:SE G C r sc (.Constant .none n p) σ (.d .none) σ
 | bool {b:Bool} {n:Nat} {p:Pos} {σ:St}:SE G C r sc (.Constant (.bool b) n p) σ (.d (.bool b)) σ
 | glob {y:Str} {p:Pos} {σ:St} {v:AV}:sc.names.lookup y=some .globalImplicit→G.lookup y=some v→SE G C r sc (.Name y p) σ v σ
 | name {y:Str} {p:Pos} {σ:St} {v:AV} {k:NameKind} {i:Nat}:sc.names.lookup y=some k→k≠.globalImplicit→k≠.globalExplicit→ix sc y=some i→σ.loc[i]? = some (some v)→SE G C r sc (.Name y p) σ v σ
 | neg {i:Int} {n:Nat} {p p':Pos} {σ:St}:SE G C r sc (.UnaryOp .USub (.Constant (.int i) n p) p') σ (.d (.int (-i))) σ
 | bin {a b:Expr} {op:Operator} {p:Pos} {x y v:AV} {σ σ₁ σ₂ σ₃:St}:r.e sc a σ=some (x,σ₁)→r.e sc b σ₁=some (y,σ₂)→binop op x y σ₂=some (v,σ₃)→SE G C r sc (.BinOp a op b p) σ v σ₃
 | cmp {a b:Expr} {op:CmpOp} {p:Pos} {x y:AV} {c:Bool} {σ σ₁ σ₂:St}:r.e sc a σ=some (x,σ₁)→r.e sc b σ₁=some (y,σ₂)→Mine.cmp op x y σ₂.cel=some c→SE G C r sc (.Compare a [op] [b] p) σ (.d (.bool c)) σ₂
 | ite {t a b:Expr} {p:Pos} {c:Bool} {v:AV} {σ σ₁ σ₂:St}:r.t sc t σ=some (c,σ₁)→r.e sc (if c then a else b) σ₁=some (v,σ₂)→SE G C r sc (.IfExp t a b p) σ v σ₂
 | slice {a:Expr} {lo hi:Option Expr} {p p':Pos} {x v:AV} {i j:Option Int} {σ σ₁ σ₂ σ₃ σ₄:St}:r.e sc a σ=some (x,σ₁)→Iw r sc lo σ₁=some (i,σ₂)→Iw r sc hi σ₂=some (j,σ₃)→cut x i j σ₃=some (v,σ₄)→SE G C r sc (.Subscript a (.Slice lo hi Option.none p) p') σ v σ₄
 | item {a i:Expr} {p:Pos} {x y v:AV} {σ σ₁ σ₂:St}:(∀lo hi q,i≠.Slice lo hi Option.none q)→r.e sc a σ=some (x,σ₁)→r.e sc i σ₁=some (y,σ₂)→Mine.item x y σ₂.cel=some v→SE G C r sc (.Subscript a i p) σ v σ₂
 | list {es:List Expr} {p:Pos} {vs:List AV} {ds:List D} {cel:List Ad} {σ σ₁:St}:r.es sc es σ=some (vs,σ₁)→toDs σ₁.cel vs=some (ds,cel)→fits ds.length=true→SE G C r sc (.List es p) σ (.cell cel.length) ⟨σ₁.loc,cel++[.m ds]⟩
 | tuple {es:List Expr} {n:Nat} {p:Pos} {vs:List AV} {ds:List D} {cel:List Ad} {σ σ₁:St}:r.es sc es σ=some (vs,σ₁)→toDs σ₁.cel vs=some (ds,cel)→fits ds.length=true→SE G C r sc (.Tuple es n p) σ (.d (.tup ds)) ⟨σ₁.loc,cel⟩
 | dictS {ks:List (Option Expr)} {vs:List Expr} {p:Pos} {l:List Str} {us:List AV} {ds:List D} {cel:List Ad} {σ σ₁:St}:C4 ks=some l→Df l vs.length=true→r.es sc vs σ=some (us,σ₁)→toDs σ₁.cel us=some (ds,cel)→SE G C r sc (.Dict ks vs p) σ (.dstr (l.zip ds)) ⟨σ₁.loc,cel⟩
 | dictI {ks:List (Option Expr)} {vs:List Expr} {p:Pos} {l:List Int} {us:List AV} {ds:List D} {cel:List Ad} {σ σ₁:St}:C4 ks=Option.none→D4 ks=some l→Df l vs.length=true→r.es sc vs σ=some (us,σ₁)→toDs σ₁.cel us=some (ds,cel)→SE G C r sc (.Dict ks vs p) σ (.dint (l.zip ds)) ⟨σ₁.loc,cel⟩
 | meth {a:Expr} {name:Str} {ap p:Pos} {args:List Expr} {x v:AV} {vs:List AV} {σ σ₁ σ₂ σ₃:St}:(ap.endLine != p.line || !Cy a||Nat.ble 29 args.length)=false→(∀i,x≠.hdr i)→r.e sc a σ=some (x,σ₁)→r.es sc args σ₁=some (vs,σ₂)→Mine.meth x name vs σ₂=some (v,σ₃)→SE G C r sc (.Call (.Attribute a name ap) args [] p) σ v σ₃
 | hmeth {a:Expr} {name:Str} {ap p:Pos} {args:List Expr} {i:Nat} {f:Addr} {v:AV} {vs:List AV} {cel:List Ad} {σ σ₁ σ₂:St}:(ap.endLine != p.line || !Cy a||Nat.ble 29 args.length)=false→r.e sc a σ=some (.hdr i,σ₁)→r.es sc args σ₁=some (vs,σ₂)→N2 name=some f→C (.ref f) (.hdr i::vs) σ₂.cel=some (v,cel)→SE G C r sc (.Call (.Attribute a name ap) args [] p) σ v ⟨σ₂.loc,cel⟩
 | conv {z name kn:Str} {zp ap p kp kq:Pos} {e:Expr} {b:Bool} {kc:Nat} {i:Nat} {u v:AV} {cel:List Ad} {σ σ₁ σ₂:St}:(ap.endLine != p.line||name != ("_convert_string_type" : Str)||kn != ("name" : Str))=false→r.e sc (.Name z zp) σ=some (.hdr i,σ₁)→r.e sc e σ₁=some (u,σ₂)→C .none [.hdr i,u,.d (.bool b)] σ₂.cel=some (v,cel)→SE G C r sc (.Call (.Attribute (.Name z zp) name ap) [e] [⟨some kn,.Constant (.bool b) kc kp,kq⟩] p) σ v ⟨σ₂.loc,cel⟩
 | hattr {z name:Str} {zp p:Pos} {i:Nat} {σ σ₁:St}:(name != ("_headers" : Str))=false→r.e sc (.Name z zp) σ=some (.hdr i,σ₁)→SE G C r sc (.Attribute (.Name z zp) name p) σ (.cell i) σ₁
 | call {f:Str} {p p':Pos} {args:List Expr} {g:Value} {vs:List AV} {v:AV} {cel:List Ad} {σ σ₁ σ₂:St}:r.e sc (.Name f p) σ=some (.g g,σ₁)→r.es sc args σ₁=some (vs,σ₂)→R4 g=true→C g vs σ₂.cel=some (v,cel)→SE G C r sc (.Call (.Name f p) args [] p') σ v ⟨σ₂.loc,cel⟩
 | lc {elt:Expr} {g:Comprehension} {sc':Scope} {p:Pos} {x:AV} {ds:List D} {cel:List Ad} {σ σ₁ σ₂:St}:(!Ex sc sc'||g.is_async != 0)=false→r.e sc g.iter σ=some (x,σ₁)→Ai σ₁.cel x=some (ds,cel)→Cd r sc' elt cel.length g.target g.ifs ds ⟨Cq sc sc' σ₁.loc,cel++[.m []]⟩=some σ₂→SE G C r sc (.ListComp elt [g] sc' p) σ (.cell cel.length) ⟨σ₁.loc,σ₂.cel⟩
 | lc2 {elt:Expr} {g g':Comprehension} {sc':Scope} {p:Pos} {x:AV} {ds:List D} {cel:List Ad} {σ σ₁ σ₂:St}:(!Ex sc sc'||g.is_async != 0||g'.is_async != 0)=false→g.ifs=[]→r.e sc g.iter σ=some (x,σ₁)→Ai σ₁.cel x=some (ds,cel)→Dt r sc' elt cel.length g.target g' ds ⟨Cq sc sc' σ₁.loc,cel++[.m []]⟩=some σ₂→SE G C r sc (.ListComp elt [g,g'] sc' p) σ (.cell cel.length) ⟨σ₁.loc,σ₂.cel⟩
section
variable {G:List (Str×AV)} {C:B8} {r:I} {sc:Scope}
theorem ig(h:(if c then none else a)=some b):c=false∧a=some b:=by
 rcases c
 ·exact⟨rfl,h⟩
 ·exact Am h
theorem itt(h:(if c then a else none)=some b):c=true∧a=some b:=by
 rcases c
 ·exact Am h
 ·exact⟨rfl,h⟩
theorem fg(h:(match c with | true=>a | false=>none)=some b):c=true∧a=some b:=by
 rcases c
 ·exact Am h
 ·exact⟨rfl,h⟩
theorem Acs(hs:∀lo hi q,i≠.Slice lo hi Option.none q):Bx G C r sc (.Subscript a i p) σ=(r.e sc a σ).bind λx=>(r.e sc i x.2).bind λy=>(item x.1 y.1 y.2.cel).map (·,y.2):=by
 induction i using Expr.casesOn with
 | Slice lo hi s q=>rcases s<;>first | exact absurd rfl (hs _ _ _) | rfl
 | _=>rfl
theorem Wp(hk:sc.names.lookup y=some k)(h1:k≠.globalImplicit)(h2:k≠.globalExplicit):Bx G C r sc (.Name y p) σ=(match ix sc y with
   | some i=>match σ.loc[i]? with
    | some (some v)=>some (v,σ)
    | _=>none
   | none=>none):=by
 show(match sc.names.lookup y with
  | some .globalImplicit=>(G.lookup y).map (·,σ)
  | some .globalExplicit=>none
  | some _=>match ix sc y with
   | some i=>match σ.loc[i]? with
    | some (some v)=>some (v,σ)
    | _=>none
   | none=>none
  | none=>none)=_
 rw[hk]
 rcases k<;>first | exact absurd rfl h1 | exact absurd rfl h2 | rfl
theorem Aeh(h:Bx G C r sc (.Name y p) σ=some (v,σ')):SE G C r sc (.Name y p) σ v σ':=by
 cases hk:sc.names.lookup y with
 | none=>
  have h:(match sc.names.lookup y with
   | some .globalImplicit=>(G.lookup y).map (·,σ)
   | some .globalExplicit=>none
   | some _=>match ix sc y with
    | some i=>match σ.loc[i]? with
     | some (some v)=>some (v,σ)
     | _=>none
    | none=>none
   | none=>none)=some (v,σ'):=h
  rw[hk]at h;exact Am h
 | some k=>
  by_cases h1:k = .globalImplicit
  ·subst h1
   have h:(match sc.names.lookup y with
    | some .globalImplicit=>(G.lookup y).map (·,σ)
    | some .globalExplicit=>none
    | some _=>match ix sc y with
     | some i=>match σ.loc[i]? with
      | some (some v)=>some (v,σ)
      | _=>none
     | none=>none
    | none=>none)=some (v,σ'):=h
   rw[hk]at h
   refine Ch (show(G.lookup y).map (·,σ)=some (v,σ')from h) λg hg e=>?_
   refine Cp e ?_
   exact .glob hk hg
  ·by_cases h2:k = .globalExplicit
   ·subst h2
    have h:(match sc.names.lookup y with
     | some .globalImplicit=>(G.lookup y).map (·,σ)
     | some .globalExplicit=>none
     | some _=>match ix sc y with
      | some i=>match σ.loc[i]? with
       | some (some v)=>some (v,σ)
       | _=>none
      | none=>none
     | none=>none)=some (v,σ'):=h
    rw[hk]at h;exact Am h
   ·rw[Wp hk h1 h2]at h
    cases hi:ix sc y with
    | none=>rw[hi]at h;exact Am h
    | some i=>
     rw[hi]at h
     have h:(match σ.loc[i]? with
      | some (some v)=>some (v,σ)
      | _=>none)=some (v,σ'):=h
     cases hl:σ.loc[i]? with
     | none=>rw[hl]at h;exact Am h
     | some o=>
      induction o with
      | none=>rw[hl]at h;exact Am h
      | some w=>rw[hl]at h;refine Bi h ?_;exact .name hk h1 h2 hi hl
theorem SE.to(h:SE G C r sc e σ v σ'):Bx G C r sc e σ=some (v,σ'):=by
 induction h with
 | int=>rfl
 | str=>rfl
 | non=>rfl
 | bool=>rfl
 | @glob y p σ v h1 h2=>
  show(match sc.names.lookup y with
   | some .globalImplicit=>(G.lookup y).map (·,σ)
   | some .globalExplicit=>none
   | some _=>_
   | none=>none)=_
  rw[h1]
  show(G.lookup y).map (·,σ)=_
  rw[h2];rfl
 | name h1 h2 h3 h4 h5=>rw[Wp h1 h2 h3,h4];simp only[h5]
 | neg=>rfl
 | @bin a b op p x y v σ σ₁ σ₂ σ₃ h1 h2 h3=>show(r.e sc a σ).bind _=_;rw[h1];show(r.e sc b σ₁).bind _=_;rw[h2];exact h3
 | @cmp a b op p x y c σ σ₁ σ₂ h1 h2 h3=>show(r.e sc a σ).bind _=_;rw[h1];show(r.e sc b σ₁).bind _=_;rw[h2];show(Mine.cmp op x y _).map _=_;rw[h3];rfl
 | @ite t a b p c v σ σ₁ σ₂ h1 h2=>show(r.t sc t σ).bind _=_;rw[h1];rcases c<;>exact h2
 | @slice a lo hi p p' x v i j σ σ₁ σ₂ σ₃ σ₄ h1 h2 h3 h4=>show(r.e sc a σ).bind _=_;rw[h1];show(Iw r sc lo σ₁).bind _=_;rw[h2];show(Iw r sc hi σ₂).bind _=_;rw[h3];exact h4
 | @item a i p x y v σ σ₁ σ₂ hs h1 h2 h3=>rw[Acs hs,h1];show(r.e sc i σ₁).bind _=_;rw[h2];show(Mine.item x y _).map _=_;rw[h3];rfl
 | @list es p vs ds cel σ σ₁ h1 h2 h3=>show(r.es sc es σ).bind _=_;rw[h1];show(toDs σ₁.cel vs).bind _=_;rw[h2];show(match fits ds.length with | true=>_ | false=>none)=_;rw[h3];rfl
 | @tuple es n p vs ds cel σ σ₁ h1 h2 h3=>show(r.es sc es σ).bind _=_;rw[h1];show(toDs σ₁.cel vs).bind _=_;rw[h2];show(match fits ds.length with | true=>_ | false=>none)=_;rw[h3]
 | @dictS ks vs p l us ds cel σ σ₁ h0 h1 h2 h3=>
  show(match C4 ks,D4 ks with
   | some l,_=>if Df l vs.length then(r.es sc vs σ).bind fun(x:List AV×St)=>(toDs x.2.cel x.1).map fun(y:List D×List Ad)=>(AV.dstr (l.zip y.1),(⟨x.2.loc,y.2⟩:St))else none
   | none,some l=>_
   | none,none=>none)=_
  rw[h0]
  show(if Df l vs.length then(r.es sc vs σ).bind fun(x:List AV×St)=>(toDs x.2.cel x.1).map fun(y:List D×List Ad)=>(AV.dstr (l.zip y.1),(⟨x.2.loc,y.2⟩:St))else none)=_
  rw[if_pos h1,h2];show(toDs σ₁.cel us).map _=_;rw[h3];rfl
 | @dictI ks vs p l us ds cel σ σ₁ h0 h4 h1 h2 h3=>
  show(match C4 ks,D4 ks with
   | some l,_=>_
   | none,some l=>if Df l vs.length then(r.es sc vs σ).bind fun(x:List AV×St)=>(toDs x.2.cel x.1).map fun(y:List D×List Ad)=>(AV.dint (l.zip y.1),(⟨x.2.loc,y.2⟩:St))else none
   | none,none=>none)=_
  rw[h0,h4]
  show(if Df l vs.length then(r.es sc vs σ).bind fun(x:List AV×St)=>(toDs x.2.cel x.1).map fun(y:List D×List Ad)=>(AV.dint (l.zip y.1),(⟨x.2.loc,y.2⟩:St))else none)=_
  rw[if_pos h1,h2];show(toDs σ₁.cel us).map _=_;rw[h3];rfl
 | @meth a name ap p args x v vs σ σ₁ σ₂ σ₃ hg hx h1 h2 h3=>
  show(if(ap.endLine != p.line || !Cy a||Nat.ble 29 args.length)=true then none else _)=_
  rw[hg]
  show(r.e sc a σ).bind _=_;rw[h1];show(r.es sc args σ₁).bind _=_;rw[h2]
  rcases x<;>first | exact absurd rfl (hx _) | exact h3
 | @hmeth a name ap p args i f v vs cel σ σ₁ σ₂ hg h1 h2 hf h3=>
  show(if(ap.endLine != p.line || !Cy a||Nat.ble 29 args.length)=true then none else _)=_
  rw[hg]
  show(r.e sc a σ).bind _=_;rw[h1];show(r.es sc args σ₁).bind _=_;rw[h2]
  show(N2 name).bind _=_;rw[hf];show(C (.ref f) (.hdr i::vs) σ₂.cel).map _=_;rw[h3];rfl
 | @conv z name kn zp ap p kp kq e b kc i u v cel σ σ₁ σ₂ hg h1 h2 h3=>
  show(if(ap.endLine != p.line||name != ("_convert_string_type" : Str)||kn != ("name" : Str))=true then none else _)=_
  rw[hg]
  show(r.e sc (.Name z zp) σ).bind _=_;rw[h1];show(r.e sc e σ₁).bind _=_;rw[h2]
  show(C .none [.hdr i,u,.d (.bool b)] σ₂.cel).map _=_;rw[h3];rfl
 | @hattr z name zp p i σ σ₁ hg h1=>
  show(if(name != ("_headers" : Str))=true then none else _)=_
  rw[hg]
  show(r.e sc (.Name z zp) σ).bind _=_;rw[h1];rfl
 | @call f p p' args g vs v cel σ σ₁ σ₂ h1 h2 hf h3=>
  show(r.e sc (.Name f p) σ).bind _=_;rw[h1];show(r.es sc args σ₁).bind _=_;rw[h2]
  show(if R4 g then(C g vs σ₂.cel).map _ else none)=_
  rw[if_pos hf,h3];rfl
 | @lc elt g sc' p x ds cel σ σ₁ σ₂ hg h1 h2 h3=>
  show(if(!Ex sc sc'||g.is_async != 0)=true then none else _)=_
  rw[hg]
  show(r.e sc g.iter σ).bind _=_;rw[h1];show(Ai σ₁.cel x).bind _=_;rw[h2]
  show(Cd r sc' elt cel.length g.target g.ifs ds ⟨Cq sc sc' σ₁.loc,cel++[.m []]⟩).map _=_;rw[h3];rfl
 | @lc2 elt g g' sc' p x ds cel σ σ₁ σ₂ hg hi h1 h2 h3=>
  show(if(!Ex sc sc'||g.is_async != 0||g'.is_async != 0)=true then none else _)=_
  rw[hg]
  show(r.e sc g.iter σ).bind _=_;rw[h1];show(Ai σ₁.cel x).bind _=_;rw[h2]
  show(match g.ifs with | []=>_ | _=>none)=_
  rw[hi]
  show(Dt r sc' elt cel.length g.target g' ds ⟨Cq sc sc' σ₁.loc,cel++[.m []]⟩).map _=_;rw[h3];rfl
end
section
variable {G:List (Str×AV)} {C:B8} {r:I} {sc:Scope} {σ σ':St} {v:AV}
theorem Ah1(h:Bx G C r sc (.BinOp a op b p) σ=some (v,σ')):SE G C r sc (.BinOp a op b p) σ v σ':=by
 refine Ay h λw h1 h=>?_
 obtain⟨x,σ₁⟩:=w
 refine Ay h λw h2 h=>?_
 obtain⟨y,σ₂⟩:=w
 exact .bin h1 h2 h
theorem Aic(h:Bx G C r sc (.Compare a [op] [b] p) σ=some (v,σ')):SE G C r sc (.Compare a [op] [b] p) σ v σ':=by
 refine Ay h λw h1 h=>?_
 obtain⟨x,σ₁⟩:=w
 refine Ay h λw h2 h=>?_
 obtain⟨y,σ₂⟩:=w
 refine Ch h λc h3 h=>?_
 refine Cp h ?_
 exact .cmp h1 h2 h3
theorem Agn(h:Bx G C r sc (.IfExp t a b p) σ=some (v,σ')):SE G C r sc (.IfExp t a b p) σ v σ':=by
 refine Ay h λw h1 h=>?_
 obtain⟨c,σ₁⟩:=w
 rcases c<;>exact .ite h1 h
theorem Yi(h:Bx G C r sc (.Subscript a (.Slice lo hi Option.none p) p') σ=some (v,σ')):SE G C r sc (.Subscript a (.Slice lo hi Option.none p) p') σ v σ':=by
 refine Ay h λw h1 h=>?_
 obtain⟨x,σ₁⟩:=w
 refine Ay h λw h2 h=>?_
 obtain⟨y,σ₂⟩:=w
 refine Ay h λw h3 h=>?_
 obtain⟨z,σ₃⟩:=w
 exact .slice h1 h2 h3 h
theorem Ab5(hs:∀lo hi q,i≠.Slice lo hi Option.none q)(h:Bx G C r sc (.Subscript a i p) σ=some (v,σ')):SE G C r sc (.Subscript a i p) σ v σ':=by
 rw[Acs hs]at h
 refine Ay h λw1 h1 h=>?_
 obtain⟨x,σ₁⟩:=w1
 refine Ay h λw1 h2 h=>?_
 obtain⟨y,σ₂⟩:=w1
 refine Ch h λw h3 h=>?_
 refine Cp h ?_
 exact .item hs h1 h2 h3
theorem Zm(h:Bx G C r sc (.List es p) σ=some (v,σ')):SE G C r sc (.List es p) σ v σ':=by
 refine Ay h λw h1 h=>?_
 obtain⟨x,σ₁⟩:=w
 refine Ay h λw h2 h=>?_
 obtain⟨ds,cel⟩:=w
 refine xa (fg h) λh3 h=>?_
 refine Bi h ?_
 exact SE.list (σ₁:=σ₁) (cel:=cel) (ds:=ds) h1 h2 h3
theorem Yl(h:Bx G C r sc (.Tuple es n p) σ=some (v,σ')):SE G C r sc (.Tuple es n p) σ v σ':=by
 refine Ay h λw h1 h=>?_
 obtain⟨x,σ₁⟩:=w
 refine Ay h λw h2 h=>?_
 obtain⟨ds,cel⟩:=w
 refine xa (fg h) λh3 h=>?_
 refine Bi h ?_
 exact SE.tuple (σ₁:=σ₁) (cel:=cel) (ds:=ds) h1 h2 h3
theorem Aco(h:Bx G C r sc (.Dict ks vs p) σ=some (v,σ')):SE G C r sc (.Dict ks vs p) σ v σ':=by
 have h:(match C4 ks,D4 ks with
  | some l,_=>if Df l vs.length then(r.es sc vs σ).bind fun(x:List AV×St)=>(toDs x.2.cel x.1).map fun(y:List D×List Ad)=>(AV.dstr (l.zip y.1),(⟨x.2.loc,y.2⟩:St))else none
  | none,some l=>if Df l vs.length then(r.es sc vs σ).bind fun(x:List AV×St)=>(toDs x.2.cel x.1).map fun(y:List D×List Ad)=>(AV.dint (l.zip y.1),(⟨x.2.loc,y.2⟩:St))else none
  | none,none=>none)=some (v,σ'):=h
 cases hk:C4 ks with
 | some l=>
  rw[hk]at h
  refine xa (itt h) λh0 h=>?_
  refine Ay h λw h1 h=>?_
  obtain⟨x,σ₁⟩:=w
  refine Ch h λw h2 h=>?_
  obtain⟨ds,cel⟩:=w
  refine Cp h ?_
  exact .dictS hk h0 h1 h2
 | none=>
  rw[hk]at h
  cases hi:D4 ks with
  | some l=>
   rw[hi]at h
   refine xa (itt h) λh0 h=>?_
   refine Ay h λw h1 h=>?_
   obtain⟨x,σ₁⟩:=w
   refine Ch h λw h2 h=>?_
   obtain⟨ds,cel⟩:=w
   refine Cp h ?_
   exact .dictI hk hi h0 h1 h2
  | none=>rw[hi]at h;exact Am h
theorem Ab6(h:Bx G C r sc (.Call (.Attribute a name ap) args [] p) σ=some (v,σ')):SE G C r sc (.Call (.Attribute a name ap) args [] p) σ v σ':=by
 refine xa (ig h) λhg h=>?_
 refine Ay h λw1 h1 h=>?_
 obtain⟨x,σ₁⟩:=w1
 refine Ay h λw1 h2 h=>?_
 obtain⟨vs,σ₂⟩:=w1
 by_cases hx:∃i,x = .hdr i
 ·refine xe hx λi z=>?_
  clear hx
  subst z
  refine Ay h λf h3 h=>?_
  refine Ch h λw1 h4 h=>?_
  obtain⟨w,cel⟩:=w1
  refine Cp h ?_
  exact .hmeth hg h1 h2 h3 h4
 ·refine .meth hg (λi e=>hx ⟨i,e⟩) h1 h2 ?_
  rcases x<;>first | exact absurd ⟨_,rfl⟩ hx | exact h
theorem Acm(h:Bx G C r sc (.Call (.Attribute (.Name z zp) name ap) [e] [⟨some kn,.Constant (.bool b) kc kp,kq⟩] p) σ=some (v,σ')):SE G C r sc (.Call (.Attribute (.Name z zp) name ap) [e] [⟨some kn,.Constant (.bool b) kc kp,kq⟩] p) σ v σ':=by
 refine xa (ig h) λhg h=>?_
 refine Ay h λw1 h1 h=>?_
 obtain⟨x,σ₁⟩:=w1
 refine Ay h λw1 h2 h=>?_
 obtain⟨u,σ₂⟩:=w1
 rcases x<;>try (cases h;done)
 refine Ch h λw1 h4 h=>?_
 obtain⟨w,cel⟩:=w1
 refine Cp h ?_
 exact .conv hg h1 h2 h4
theorem Y3(h:Bx G C r sc (.Attribute (.Name z zp) name p) σ=some (v,σ')):SE G C r sc (.Attribute (.Name z zp) name p) σ v σ':=by
 refine xa (ig h) λhg h=>?_
 refine Ay h λw h1 h=>?_
 obtain⟨x,σ₁⟩:=w
 rcases x<;>try (cases h;done)
 refine Bi h ?_
 exact .hattr hg h1
theorem Aay(h:Bx G C r sc (.Call (.Name f p) args [] p') σ=some (v,σ')):SE G C r sc (.Call (.Name f p) args [] p') σ v σ':=by
 refine Ay h λw1 h1 h=>?_
 obtain⟨x,σ₁⟩:=w1
 refine Ay h λw1 h2 h=>?_
 obtain⟨vs,σ₂⟩:=w1
 rcases x<;>try (cases h;done)
 refine xa (itt h) λhf h=>?_
 refine Ch h λw1 h4 h=>?_
 obtain⟨w,cel⟩:=w1
 refine Cp h ?_
 exact .call h1 h2 hf h4
theorem Ajm(h:Bx G C r sc (.ListComp elt [g] sc' p) σ=some (v,σ')):SE G C r sc (.ListComp elt [g] sc' p) σ v σ':=by
 refine xa (ig h) λhg h=>?_
 refine Ay h λw h1 h=>?_
 obtain⟨x,σ₁⟩:=w
 refine Ay h λw h2 h=>?_
 obtain⟨ds,cel⟩:=w
 refine Ch h λσ₂ h3 h=>?_
 refine Cp h ?_
 exact .lc hg h1 h2 h3
theorem Af4(h:Bx G C r sc (.ListComp elt [g,g'] sc' p) σ=some (v,σ')):SE G C r sc (.ListComp elt [g,g'] sc' p) σ v σ':=by
 refine xa (ig h) λhg h=>?_
 refine Ay h λw h1 h=>?_
 obtain⟨x,σ₁⟩:=w
 refine Ay h λw h2 h=>?_
 obtain⟨ds,cel⟩:=w
 cases hi:g.ifs with
 | nil=>
  rw[hi]at h
  refine Ch h λσ₂ h3 h=>?_
  refine Cp h ?_
  exact .lc2 hg hi h1 h2 h3
 | cons a l=>rw[hi]at h;exact Am h
theorem Za(h:Bx G C r sc (.Call (.Attribute a name ap) args (k::ks) p) σ=some (v,σ')):SE G C r sc (.Call (.Attribute a name ap) args (k::ks) p) σ v σ':=by
 have h:Ai5 C r sc a name ap args k ks p σ=some (v,σ'):=h
 induction a using Expr.casesOn with
 | Name z zp=>
  induction args using List.casesOn with
  | nil=>exact Am h
  | cons e args=>
   induction args using List.casesOn with
   | cons=>exact Am h
   | nil=>
    induction ks using List.casesOn with
    | cons=>exact Am h
    | nil=>
     obtain⟨kn,kv,kq⟩:=k
     induction kn with
     | none=>exact Am h
     | some kn=>
      induction kv using Expr.casesOn with
      | Constant c kc kp=>
       induction c with
       | bool b=>exact Acm h
       | _=>exact Am h
      | _=>exact Am h
 | _=>exact Am h
theorem SE.of(h:Bx G C r sc e σ=some (v,σ')):SE G C r sc e σ v σ':=by
 induction e using Expr.casesOn with
 | Constant c n p=>
  induction c with
  | int i=>refine Bi h ?_;exact .int
  | str x=>refine Bi h ?_;exact .str
  | none=>refine Bi h ?_;exact .non
  | bool b=>refine Bi h ?_;exact .bool
  | _=>exact Am h
 | Name y p=>exact Aeh h
 | UnaryOp op a p=>
  induction op with
  | USub=>
   induction a using Expr.casesOn with
   | Constant c n q=>
    induction c with
    | int i=>refine Bi h ?_;exact .neg
    | _=>exact Am h
   | _=>exact Am h
  | _=>exact Am h
 | BinOp a op b p=>exact Ah1 h
 | Compare a ops bs p=>
  induction ops using List.casesOn with
  | nil=>exact Am h
  | cons op ops=>
   induction ops using List.casesOn with
   | cons=>exact Am h
   | nil=>
    induction bs using List.casesOn with
    | nil=>exact Am h
    | cons b bs=>
     induction bs using List.casesOn with
     | cons=>exact Am h
     | nil=>exact Aic h
 | IfExp t a b p=>exact Agn h
 | Subscript a i p=>
  by_cases hs:∃lo hi q,i = .Slice lo hi Option.none q
  ·refine Ot hs λlo hi q z1=>?_
   clear hs
   subst z1
   exact Yi h
  ·exact Ab5 (λlo hi q e=>hs ⟨lo,hi,q,e⟩) h
 | List es p=>exact Zm h
 | Tuple es n p=>exact Yl h
 | Dict ks vs p=>exact Aco h
 | Attribute a name p=>
  induction a using Expr.casesOn with
  | Name z zp=>exact Y3 h
  | _=>exact Am h
 | Call f as ks p=>
  induction f using Expr.casesOn with
  | Attribute a name ap=>
   induction ks using List.casesOn with
   | nil=>exact Ab6 h
   | cons k ks=>exact Za h
  | Name y q=>
   induction ks using List.casesOn with
   | nil=>exact Aay h
   | cons k ks=>exact Am h
  | _=>exact Am h
 | ListComp elt gs sc' p=>
  induction gs using List.casesOn with
  | nil=>exact Am h
  | cons g gs=>
   induction gs using List.casesOn with
   | nil=>exact Ajm h
   | cons g' gs=>
    induction gs using List.casesOn with
    | nil=>exact Af4 h
    | cons=>exact Am h
 | _=>exact Am h
end
inductive SJ(r:I)(sc:Scope):Expr→St→Bool→St→Prop
 | not {e:Expr} {p:Pos} {b:Bool} {σ σ₁:St}:r.t sc e σ=some (b,σ₁)→SJ r sc (.UnaryOp .Not e p) σ (!b) σ₁
 | and {a b:Expr} {p:Pos} {c d:Bool} {σ σ₁ σ₂:St}:r.t sc a σ=some (c,σ₁)→(c=true→r.t sc b σ₁=some (d,σ₂))→(c=false→d=false∧σ₂=σ₁)→SJ r sc (.BoolOp .And [a,b] p) σ d σ₂
 | or {a b:Expr} {p:Pos} {c d:Bool} {σ σ₁ σ₂:St}:r.t sc a σ=some (c,σ₁)→(c=false→r.t sc b σ₁=some (d,σ₂))→(c=true→d=true∧σ₂=σ₁)→SJ r sc (.BoolOp .Or [a,b] p) σ d σ₂
 | cmp {a:Expr} {ops:List CmpOp} {bs:List Expr} {p:Pos} {c:Bool} {σ σ₁:St}:r.e sc (.Compare a ops bs p) σ=some (.d (.bool c),σ₁)→SJ r sc (.Compare a ops bs p) σ c σ₁
 | call {f:Expr} {as:List Expr} {ks:List Keyword} {p:Pos} {c:Bool} {σ σ₁:St}:r.e sc (.Call f as ks p) σ=some (.d (.bool c),σ₁)→SJ r sc (.Call f as ks p) σ c σ₁
 | calln {f:Expr} {as:List Expr} {ks:List Keyword} {p:Pos} {σ σ₁:St}:r.e sc (.Call f as ks p) σ=some (.d .none,σ₁)→SJ r sc (.Call f as ks p) σ false σ₁
 | name {y:Str} {p:Pos} {c:Bool} {σ σ₁:St}:r.e sc (.Name y p) σ=some (.d (.bool c),σ₁)→SJ r sc (.Name y p) σ c σ₁
inductive SK(r:I)(sc:Scope):Stmt→St→Fl→St→Prop
 | pass {p:Pos} {σ:St}:SK r sc (.Pass p) σ .next σ
 | ret {e:Expr} {p:Pos} {v:AV} {σ σ₁:St}:r.e sc e σ=some (v,σ₁)→SK r sc (.Return (some e) p) σ (.ret v) σ₁
 | exprN {e:Expr} {p:Pos} {σ σ₁:St}:r.e sc e σ=some (.d .none,σ₁)→SK r sc (.Expr e p) σ .next σ₁
 | exprI {e:Expr} {p:Pos} {i:Int} {σ σ₁:St}:r.e sc e σ=some (.d (.int i),σ₁)→SK r sc (.Expr e p) σ .next σ₁
 | assign {y:Str} {e:Expr} {p p':Pos} {v:AV} {σ σ₁ σ₂:St}:r.e sc e σ=some (v,σ₁)→σ₁.setName sc y v=some σ₂→SK r sc (.Assign [.Name y p] e p') σ .next σ₂
 | setall {a e:Expr} {q p p':Pos} {i j:Nat} {c:Ad} {xs:List D} {σ σ₁ σ₂:St}:r.e sc e σ=some (.cell j,σ₁)→r.e sc a σ₁=some (.cell i,σ₂)→σ₂.cel[j]? = some c→σ₂.cel[i]? = some (.m xs)→fits (xs.length+c.items.length)=true→SK r sc (.Assign [.Subscript a (.Slice none none none q) p] e p') σ .next ⟨σ₂.loc,σ₂.cel.set i (.m c.items)⟩
 | setitem {a i e:Expr} {p p':Pos} {v:D} {c:Nat} {j:Int} {xs:List D} {pl:Nat} {σ σ₁ σ₂ σ₃:St}:(∀q,i≠.Slice none none none q)→r.e sc e σ=some (.d v,σ₁)→r.e sc a σ₁=some (.cell c,σ₂)→r.e sc i σ₂=some (.d (.int j),σ₃)→σ₃.cel[c]? = some (.m xs)→Ef j xs.length=some pl→SK r sc (.Assign [.Subscript a i p] e p') σ .next ⟨σ₃.loc,σ₃.cel.set c (.m (xs.set pl v))⟩
 | ite {t:Expr} {a b:List Stmt} {p:Pos} {c:Bool} {fl:Fl} {σ σ₁ σ₂:St}:r.t sc t σ=some (c,σ₁)→r.ss sc (if c then a else b) σ₁=some (fl,σ₂)→SK r sc (.If t a b p) σ fl σ₂
 | whl {t:Expr} {b:List Stmt} {p:Pos} {fl:Fl} {σ σ₁:St}:r.w sc t b σ=some (fl,σ₁)→SK r sc (.While t b [] p) σ fl σ₁
 | items {t a:Expr} {nm:Str} {ap p p':Pos} {b:List Stmt} {σ σ₁:St}:(ap.endLine != p.line || !Cy a||nm != ("items" : Str))=false→r.e sc a σ=some (.dstr [],σ₁)→SK r sc (.For t (.Call (.Attribute a nm ap) [] [] p) b [] p') σ .next σ₁
 | for {t it:Expr} {b:List Stmt} {p:Pos} {x:AV} {ds:List D} {cel:List Ad} {fl:Fl} {σ σ₁ σ₂:St}:(∀f q l s,it≠.Call (.Attribute f q l) [] [] s)→r.e sc it σ=some (x,σ₁)→Ai σ₁.cel x=some (ds,cel)→H3 (r.ss sc b) sc t ds ⟨σ₁.loc,cel⟩=some (fl,σ₂)→SK r sc (.For t it b [] p) σ fl σ₂
section
variable {r:I} {sc:Scope} {σ σ':St}
theorem ab {v:AV} {σ:St} {b:Bool} {σ':St} (h:(match (v,σ)with
   | (.d (.bool c),σ)=>some (c,σ)
   | _=>none)=some (b,σ')):v = .d (.bool b)∧σ=σ':=by
 induction v with
 | d x=>rcases x<;>cases h;exact⟨rfl,rfl⟩
 | _=>exact Am h
theorem SJ.of{e:Expr}{b:Bool}(h:Jq r sc e σ=some (b,σ')):SJ r sc e σ b σ':=by
 induction e using Expr.casesOn with
 | UnaryOp op e p=>
  induction op with
  | Not=>
   refine Ch h λw h1 h=>?_
   obtain⟨c,σ₁⟩:=w
   refine Cp h ?_
   exact .not h1
  | _=>exact Am h
 | BoolOp op vs p=>
  induction op with
  | And=>
   rcases vs with _ | ⟨a,_ | ⟨b,_ | ⟨c,vs⟩⟩⟩
   ·exact Am h
   ·exact Am h
   ·refine Ay h λw h1 h=>?_
    obtain⟨c,σ₁⟩:=w
    induction c with
    | true=>exact .and h1 (λ_=>h) (λe=>by exact J3 e)
    | false=>refine Bi h ?_;exact .and h1 (λe=>by exact Ff e) (λ_=>⟨rfl,rfl⟩)
   ·exact Am h
  | Or=>
   rcases vs with _ | ⟨a,_ | ⟨b,_ | ⟨c,vs⟩⟩⟩
   ·exact Am h
   ·exact Am h
   ·refine Ay h λw h1 h=>?_
    obtain⟨c,σ₁⟩:=w
    induction c with
    | false=>exact .or h1 (λ_=>h) (λe=>by exact Ff e)
    | true=>refine Bi h ?_;exact .or h1 (λe=>by exact J3 e) (λ_=>⟨rfl,rfl⟩)
   ·exact Am h
 | Compare a ops bs p=>
  refine Ay h λw h1 h=>?_
  obtain⟨x,σ₁⟩:=w
  refine xa (ab h) λz z1=>?_
  subst z
  subst z1
  exact .cmp h1
 | Name y p=>
  refine Ay h λw h1 h=>?_
  obtain⟨x,σ₁⟩:=w
  refine xa (ab h) λz z1=>?_
  subst z
  subst z1
  exact .name h1
 | Call f as ks p=>
  refine Ay h λw h1 h=>?_
  obtain⟨x,σ₁⟩:=w
  induction x with
  | d x=>
   induction x using D.casesOn with
   | bool c=>refine Bi h ?_;exact .call h1
   | none=>refine Bi h ?_;exact .calln h1
   | _=>exact Am h
  | _=>exact Am h
 | _=>exact Am h
theorem Aav(h:Ec r sc (.Expr e p) σ=some (fl,σ')):SK r sc (.Expr e p) σ fl σ':=by
 refine Ay h λw h1 h=>?_
 obtain⟨x,σ₁⟩:=w
 induction x with
 | d x=>
  induction x using D.casesOn with
  | int c=>refine Bi h ?_;exact .exprI h1
  | none=>refine Bi h ?_;exact .exprN h1
  | _=>exact Am h
 | _=>exact Am h
theorem S9(h:Ec r sc (.Assign [.Subscript a (.Slice none none none q) p] e p') σ=some (fl,σ')):SK r sc (.Assign [.Subscript a (.Slice none none none q) p] e p') σ fl σ':=by
 refine Ay h λw h1 h=>?_
 obtain⟨x,σ₁⟩:=w
 refine Ay h λw h2 h=>?_
 obtain⟨y,σ₂⟩:=w
 induction x with
 | cell j=>
  induction y with
  | cell i=>
   have h:(match σ₂.cel[j]?,σ₂.cel[i]? with
    | some c,some (.m xs)=>if fits (xs.length+c.items.length)then some (Fl.next,(⟨σ₂.loc,σ₂.cel.set i (.m c.items)⟩:St))else none
    | _,_=>none)=some (fl,σ'):=h
   cases hj:σ₂.cel[j]? with
   | none=>rw[hj]at h;exact Am h
   | some c=>
    cases hi:σ₂.cel[i]? with
    | none=>rw[hj,hi]at h;exact Am h
    | some c'=>
     rw[hj,hi]at h
     induction c' with
     | f xs=>exact Am h
     | m xs=>
      refine xa (itt h) λhf h=>?_
      refine Bi h ?_
      exact .setall h1 h2 hj hi hf
  | _=>exact Am h
 | _=>rcases y<;>exact Am h
theorem Vs(hn:∀q,i≠.Slice none none none q):Ec r sc (.Assign [.Subscript a i p] e p') σ=(r.e sc e σ).bind λx=>(r.e sc a x.2).bind λy=>(r.e sc i y.2).bind λz=>match x.1,y.1,z.1 with
  | .d v,.cell i,.d (.int k)=>match z.2.cel[i]? with
   | some (.m xs)=>(Ef k xs.length).map λp=>(.next,⟨z.2.loc,z.2.cel.set i (.m (xs.set p v))⟩)
   | _=>none
  | _,_,_=>none:=by
 induction i using Expr.casesOn with
 | Slice l u s q=>rcases l<;>rcases u<;>rcases s<;>first | exact absurd rfl (hn _) | rfl
 | _=>rfl
theorem Rj(hn:∀q,i≠.Slice none none none q)(h:Ec r sc (.Assign [.Subscript a i p] e p') σ=some (fl,σ')):SK r sc (.Assign [.Subscript a i p] e p') σ fl σ':=by
 rw[Vs hn]at h
 refine Ay h λw h1 h=>?_
 obtain⟨x,σ₁⟩:=w
 refine Ay h λw h2 h=>?_
 obtain⟨y,σ₂⟩:=w
 refine Ay h λw h3 h=>?_
 obtain⟨z,σ₃⟩:=w
 induction x with
 | d v=>
  induction y with
  | cell c=>
   induction z with
   | d z=>
    induction z using D.casesOn with
    | int j=>
     have h:(match σ₃.cel[c]? with
      | some (.m xs)=>(Ef j xs.length).map λp=>(Fl.next,(⟨σ₃.loc,σ₃.cel.set c (.m (xs.set p v))⟩:St))
      | _=>none)=some (fl,σ'):=h
     cases hc:σ₃.cel[c]? with
     | none=>rw[hc]at h;exact Am h
     | some c'=>
      rw[hc]at h
      induction c' with
      | f xs=>exact Am h
      | m xs=>
       refine Ch h λpl h4 h=>?_
       refine Cp h ?_
       exact .setitem hn h1 h2 h3 hc h4
    | _=>exact Am h
   | _=>exact Am h
  | _=>exact Am h
 | _=>exact Am h
theorem Y6(h:Ec r sc (.For t (.Call (.Attribute a nm ap) [] [] p) b [] p') σ=some (fl,σ')):SK r sc (.For t (.Call (.Attribute a nm ap) [] [] p) b [] p') σ fl σ':=by
 refine xa (ig h) λhg h=>?_
 refine Ay h λw h1 h=>?_
 obtain⟨x,σ₁⟩:=w
 induction x with
 | dstr kvs=>
  induction kvs using List.casesOn with
  | nil=>refine Bi h ?_;exact .items hg h1
  | cons=>exact Am h
 | _=>exact Am h
theorem Vh{t it:Expr}{b:List Stmt}{p:Pos}(hn:∀f q l s,it≠.Call (.Attribute f q l) [] [] s):Ec r sc (.For t it b [] p) σ=(r.e sc it σ).bind λx=>(Ai x.2.cel x.1).bind λy=>H3 (r.ss sc b) sc t y.1 ⟨x.2.loc,y.2⟩:=by
 induction it using Expr.casesOn with
 | Call f as ks q=>
  induction f using Expr.casesOn with
  | Attribute a n ap=>cases as with
   | nil=>cases ks with
    | nil=>exact absurd rfl (hn _ _ _ _)
    | cons=>rfl
   | cons e es=>rfl
  | _=>rfl
 | _=>rfl
theorem T9(h:Ec r sc (.Assign [t] e p') σ=some (fl,σ')):SK r sc (.Assign [t] e p') σ fl σ':=by
 induction t using Expr.casesOn with
 | Name y p=>
  refine Ay h λw h1 h=>?_
  obtain⟨x,σ₁⟩:=w
  refine Ch h λσ₂ h2 h=>?_
  refine Cp h ?_
  exact .assign h1 h2
 | Subscript a i p=>
  by_cases hs:∃q,i = .Slice none none none q
  ·refine xe hs λq z=>?_
   clear hs
   subst z
   exact S9 h
  ·exact Rj (λq e=>hs ⟨q,e⟩) h
 | _=>exact Am h
theorem Age{t it:Expr}{b:List Stmt}{p:Pos}(h:Ec r sc (.For t it b [] p) σ=some (fl,σ')):SK r sc (.For t it b [] p) σ fl σ':=by
 by_cases hs:∃f q l s,it = .Call (.Attribute f q l) [] [] s
 ·refine Jp hs λf q l s z=>?_
  clear hs
  subst z
  exact Y6 h
 ·have hn:∀f q l s,it≠.Call (.Attribute f q l) [] [] s:=λf q l s e=>hs ⟨f,q,l,s,e⟩
  rw[Vh hn]at h
  refine Ay h λw h1 h=>?_
  obtain⟨x,σ₁⟩:=w
  refine Ay h λw h2 h=>?_
  obtain⟨ds,cel⟩:=w
  exact .for hn h1 h2 h
theorem SK.of{st:Stmt}{fl:Fl}(h:Ec r sc st σ=some (fl,σ')):SK r sc st σ fl σ':=by
 induction st using Stmt.casesOn with
 | Pass p=>refine Bi h ?_;exact .pass
 | Return v p=>
  induction v with
  | none=>exact Am h
  | some e=>
   refine Ch h λw h1 h=>?_
   obtain⟨x,σ₁⟩:=w
   refine Cp h ?_
   exact .ret h1
 | Expr e p=>exact Aav h
 | Assign ts e p=>
  rcases ts with _ | ⟨t,_ | ⟨t',ts⟩⟩
  ·exact Am h
  ·exact T9 h
  ·exfalso;exact Am h
 | If t a b p=>
  refine Ay h λw h1 h=>?_
  obtain⟨c,σ₁⟩:=w
  rcases c<;>exact .ite h1 h
 | While t b o p=>
  induction o using List.casesOn with
  | nil=>exact .whl h
  | cons=>exact Am h
 | For t it b o p=>
  induction o using List.casesOn with
  | nil=>exact Age h
  | cons=>exfalso;exact Am h
 | _=>exact Am h
end
section
variable {r:I} {sc:Scope} {σ σ':St}
theorem SJ.to(h:SJ r sc e σ b σ'):Jq r sc e σ=some (b,σ'):=by
 induction h with
 | not h1=>show(r.t sc _ _).map _=_;rw[h1];rfl
 | @and a b p c d _ σ₁ _ h1 h2 h3=>
  show(r.t sc a _).bind _=_;rw[h1]
  induction c with
  | true=>exact h2 rfl
  | false=>obtain⟨rfl,rfl⟩:=h3 rfl;rfl
 | @or a b p c d _ σ₁ _ h1 h2 h3=>
  show(r.t sc a _).bind _=_;rw[h1]
  induction c with
  | false=>exact h2 rfl
  | true=>obtain⟨rfl,rfl⟩:=h3 rfl;rfl
 | @cmp a ops bs p c _ _ h1=>show(r.e sc (.Compare a ops bs p) _).bind _=_;rw[h1];rfl
 | @call f as ks p c _ _ h1=>show(r.e sc (.Call f as ks p) _).bind _=_;rw[h1];rfl
 | @calln f as ks p _ _ h1=>show(r.e sc (.Call f as ks p) _).bind _=_;rw[h1];rfl
 | @name y p c _ _ h1=>show(r.e sc (.Name y p) _).bind _=_;rw[h1];rfl
theorem SK.to{st:Stmt}{fl:Fl}(h:SK r sc st σ fl σ'):Ec r sc st σ=some (fl,σ'):=by
 induction h with
 | pass=>rfl
 | ret h1=>show(r.e sc _ _).map _=_;rw[h1];rfl
 | exprN h1=>show(r.e sc _ _).bind _=_;rw[h1];rfl
 | exprI h1=>show(r.e sc _ _).bind _=_;rw[h1];rfl
 | @assign y e p p' v _ σ₁ _ h1 h2=>show(r.e sc e _).bind _=_;rw[h1];show(σ₁.setName sc y v).map _=_;rw[h2];rfl
 | @setall a e q p p' i j c xs _ σ₁ σ₂ h1 h2 hj hi hf=>
  show(r.e sc e _).bind _=_;rw[h1];show(r.e sc a σ₁).bind _=_;rw[h2]
  show(match σ₂.cel[j]?,σ₂.cel[i]? with
    | some c,some (.m xs)=>if fits (xs.length+c.items.length)then some (Fl.next,(⟨σ₂.loc,σ₂.cel.set i (.m c.items)⟩:St))else none
    | _,_=>none)=_
  rw[hj,hi]
  show(if fits (xs.length+c.items.length)then _ else none)=_
  rw[if_pos hf]
 | @setitem a i e p p' v c j xs pl _ σ₁ σ₂ σ₃ hn h1 h2 h3 hc hp=>
  rw[Vs hn,h1];show(r.e sc a σ₁).bind _=_;rw[h2];show(r.e sc i σ₂).bind _=_;rw[h3]
  show(match σ₃.cel[c]? with
      | some (.m xs)=>(Ef j xs.length).map λp=>(Fl.next,(⟨σ₃.loc,σ₃.cel.set c (.m (xs.set p v))⟩:St))
      | _=>none)=_
  rw[hc]
  show(Ef j xs.length).map _=_
  rw[hp];rfl
 | @ite t a b p c fl _ σ₁ _ h1 h2=>show(r.t sc t _).bind _=_;rw[h1];rcases c<;>exact h2
 | whl h1=>exact h1
 | @items t a nm ap p p' b _ σ₁ hg h1=>
  show(if(ap.endLine != p.line || !Cy a||nm != ("items" : Str))=true then none else _)=_
  rw[hg]
  rw[h1];rfl
 | @«for» t it b p x ds cel fl _ σ₁ _ hn h1 h2 h3=>rw[Vh hn,h1];show(Ai σ₁.cel x).bind _=_;rw[h2];exact h3
end
end
noncomputable section
open PySem PySem.W PySem.Calls PyProof.Rows PySem.Spec
noncomputable abbrev Aa:=Addr→Option Obj
noncomputable abbrev Bp(vs:Array Value)(n:Nat):Obj:={cls:=.type "list",data:=.seq vs n}
noncomputable abbrev Aj5(vs:Array Value)(n:Nat):Obj:={cls:=.type "tuple",data:=.seq vs n}
mutual
def Er(B:Aa):D→Value→Prop
 | .none,v=>v = .none
 | .bool b,v=>v = .bool b
 | .int i,v=>∃t,v = .int i t
 | .str x,v=>∃t,v = .str x t
 | .tup l,v=>∃a n vs,v = .ref a∧B a=some (Aj5 vs n)∧Reps B l vs.toList
 | .lst l,v=>∃a n vs,v = .ref a∧B a=some (Bp vs n)∧Reps B l vs.toList
def Reps(B:Aa):List D→List Value→Prop
 | [],vs=>vs=[]
 | d::l,vs=>∃v r,vs=v::r∧Er B d v∧Reps B l r
end
def Aa.le(B B':Aa):Prop:=∀a o,B a=some o→B' a=some o
theorem Aa.le.refl(B:Aa):B.le B:=λ_ _ e=>e
theorem Aa.le.trans{B B' B'':Aa}(h:B.le B')(h':B'.le B''):B.le B'':=λa o e=>h' a o (h a o e)
def Aa.leT(B B':Aa):Prop:=∀a vs n,(B a=some (Aj5 vs n)→B' a=some (Aj5 vs n))∧(B a=some (Bp vs n)→B' a=some (Bp vs n))
theorem Aa.le.t{B B':Aa}(h:B.le B'):B.leT B':=λa _ _=>⟨h a _,h a _⟩
mutual
theorem Er.monoT(h:B.leT B'):∀(d:D) (v:Value),Er B d v→Er B' d v
 | .none,_,r=>by simpa only[Er]using r
 | .bool b,_,r=>by simpa only[Er]using r
 | .int i,_,r=>by simpa only[Er]using r
 | .str x,_,r=>by simpa only[Er]using r
 | .tup l,_,r=>by
  refine Au r λa n vs e hb hr=>?_
  clear r
  exact⟨a,n,vs,e,(h a vs n).1 hb,Reps.monoT h l _ hr⟩
 | .lst l,_,r=>by
  refine Au r λa n vs e hb hr=>?_
  clear r
  exact⟨a,n,vs,e,(h a vs n).2 hb,Reps.monoT h l _ hr⟩
theorem Reps.monoT(h:B.leT B'):∀(l:List D) (vs:List Value),Reps B l vs→Reps B' l vs
 | [],_,r=>by simpa only[Reps]using r
 | d::l,_,r=>by
  refine Cc r λv vs e h1 h2=>?_
  clear r
  exact⟨v,vs,e,Er.monoT h d v h1,Reps.monoT h l vs h2⟩
end
theorem Er.mono(h:B.le B'){v:Value}(r:Er B d v):Er B' d v:=Er.monoT h.t d v r
theorem Reps.mono(h:B.le B'){l:List D}{vs:List Value}(r:Reps B l vs):Reps B' l vs:=Reps.monoT h.t l vs r
theorem Reps.length:∀{l:List D} {vs:List Value},Reps B l vs→vs.length=l.length
 | [],_,r=>by subst r;rfl
 | _::l,_,r=>by obtain⟨v,vs,rfl,_,h⟩:=r;simp[Reps.length h]
theorem Reps.get:∀{l:List D} {vs:List Value},Reps B l vs→∀{i:Nat} {d:D},l[i]? = some d→∃v,vs[i]? = some v∧Er B d v
 | [],_,_,i,d,h=>by simp at h
 | x::l,_,r,i,d,h=>by
  refine Cc r λv vs z h1 h2=>?_
  clear r
  subst z
  induction i using Nat.casesOn with
  | zero=>simp at h;subst h;exact⟨v,rfl,h1⟩
  | succ i=>simpa using Reps.get h2 (by simpa using h)
theorem Reps.nil:Reps B [] []:=by rfl
theorem Reps.cons(h:Er B d v)(r:Reps B l vs):Reps B (d::l) (v::vs):=by
 exact⟨v,vs,rfl,h,r⟩
theorem Reps.append:∀{l l':List D} {vs vs':List Value},Reps B l vs→Reps B l' vs'→Reps B (l++l') (vs++vs')
 | [],_,_,_,r,r'=>by subst r;simpa using r'
 | _::l,_,_,_,r,r'=>by
  obtain⟨v,vs,rfl,h1,h2⟩:=r
  exact Reps.cons h1 (Reps.append h2 r')
theorem Reps.snoc(r:Reps B l vs)(h:Er B d v):Reps B (l++[d]) (vs++[v]):=r.append (Reps.cons h Reps.nil)
theorem Reps.take:∀{l:List D} {vs:List Value} (n:Nat),Reps B l vs→Reps B (l.take n) (vs.take n)
 | [],_,n,r=>by subst r;simpa using Reps.nil
 | _::_,_,0,_=>by exact Reps.nil
 | _::l,_,n+1,r=>by
  obtain⟨v,vs,rfl,h1,h2⟩:=r
  simpa using Reps.cons h1 (Reps.take n h2)
theorem Reps.drop:∀{l:List D} {vs:List Value} (n:Nat),Reps B l vs→Reps B (l.drop n) (vs.drop n)
 | [],_,n,r=>by subst r;simpa using Reps.nil
 | _::_,_,0,r=>by trivial
 | _::l,_,n+1,r=>by
  obtain⟨v,vs,rfl,h1,h2⟩:=r
  simpa using Reps.drop n h2
theorem Reps.set:∀{l:List D} {vs:List Value} (n:Nat) {d:D} {v:Value},Reps B l vs→Er B d v→Reps B (l.set n d) (vs.set n v)
 | [],_,n,_,_,r,_=>by subst r;simpa using Reps.nil
 | _::_,_,0,_,_,r,h=>by
  obtain⟨v,vs,rfl,h1,h2⟩:=r
  simpa using Reps.cons h h2
 | _::l,_,n+1,_,_,r,h=>by
  obtain⟨v,vs,rfl,h1,h2⟩:=r
  simpa using Reps.cons h1 (Reps.set n h2 h)
theorem Reps.reverse:∀{l:List D} {vs:List Value},Reps B l vs→Reps B l.reverse vs.reverse
 | [],_,r=>by subst r;simpa using Reps.nil
 | _::l,_,r=>by
  obtain⟨v,vs,rfl,h1,h2⟩:=r
  simpa using (Reps.reverse h2).snoc h1
structure Bz where
 prog:Program
 w:World
 s₀:Shared
 mg:Str→Option Value
 mb:Str→Option Value
 g:s₀.heap.Ns mainGlobals mg
 b:s₀.heap.Ns builtinsNs mb
 lim:s₀.heap.NoLimit
noncomputable abbrev Bz.M(Z:Bz):Model:=model Z.prog Z.w
def Aa.ok(B:Aa)(h:Heap):Prop:=∀a o,B a=some o→h.get? a=some o
def Pm{K:Type}[DecidableEq K](knd:KeyKind prog w K)(B:Aa)(kvs:List (K×D))(a:Addr):Prop:=
 ∃(f:K→Option Value) (o:Obj),B a=some o∧(a==sysModules)=false∧(∀h:Heap,h.get? a=some o→h.MapOf knd a f)∧∀k,match kvs.lookup k with
  | some d=>∃v,f k=some v∧Er B d v
  | none=>f k=none
noncomputable def Ud(l:Addr):Str→Option Value:=λy=>if y=("_headers" : Str)then some (.ref l)else none
def Tq(B:Aa)(x l:Addr):Prop:=
 ∃dx od o,B x=some o∧o.cls = .ref 297∧o.dict=some dx∧(∀c,o.data≠.cls c)∧dx≠x∧B dx=some od∧∀h:Heap,h.get? dx=some od→h.Ns1 dx (Ud l)
def Aae(prog:Program)(w:World)(B:Aa)(l:List Int)(a:Addr):Prop:=
 ∃o,B a=some o∧∀(A:Around) (E:Value→Shared→Prop) (s:Shared) (Q:Value→Shared→Prop) (i:Int) (t:Tok),s.heap.get? a=some o→(∀tk,Q (.bool (l.contains i)) {s with toks:=tk})→wpAny (model prog w) A (compareOp .In (.int i t) (.ref a)) Q E s
theorem Aae.mono(hl:B.le B')(h:Aae prog w B l a):Aae prog w B' l a:=by
 refine Aj h λo h1 h2=>?_
 clear h
 exact⟨o,hl _ _ h1,h2⟩
def VR(Z:Bz)(B:Aa)(φ:List Addr):AV→Value→Prop
 | .d x,v=>Er B x v
 | .cell i,v=>∃a,φ[i]? = some a∧v = .ref a
 | .hdr i,v=>∃x a,φ[i]? = some a∧v = .ref x∧Tq B x a
 | .g u,v=>v=u
 | .rng n,v=>∃r t u w,v = .ref r∧B r=some {cls:=.type "range",data:=.fields #[.int 0 t,.int n u,.int 1 w]}
 | .dstr kvs,v=>∃a,v = .ref a∧Pm (strKind Z.prog Z.w) B kvs a
 | .dint kvs,v=>∃a,v = .ref a∧Pm (intKind Z.prog Z.w) B kvs a
 | .iset l,v=>∃a,v = .ref a∧Aae Z.prog Z.w B l a
theorem Pm.mono{prog:Program}{w:World}{K:Type}[DecidableEq K]{knd:KeyKind prog w K}{B B':Aa}(hl:B.le B'){kvs:List (K×D)}{a:Addr}(h:Pm knd B kvs a):Pm knd B' kvs a:=by
 refine Jc h λf o h0 hs h1 h2=>?_
 clear h
 refine⟨f,o,hl _ _ h0,hs,h1,λk=>?_⟩
 have:=h2 k
 generalize kvs.lookup k=u at this⊢
 induction u with
 | some d=>exact Aj this λv e1 e2=>⟨v,e1,e2.mono hl⟩
 | none=>exact this
theorem Tq.mono(hl:B.le B')(h:Tq B x l):Tq B' x l:=by
 obtain⟨dx,od,o,e1,c,d,n,a,e2,q⟩:=h
 exact⟨dx,od,o,hl _ _ e1,c,d,n,a,hl _ _ e2,q⟩
theorem Tq.inst(hb:B.ok h)(i:Tq B x l):h.Inst x 297 (Ud l):=by
 obtain⟨dx,od,o,e1,c,d,n,a,e2,q⟩:=i
 exact⟨o,hb _ _ e1,c,n,.inr ⟨dx,d,a,q _ (hb _ _ e2)⟩⟩
structure Bj(P B B':Aa)(φ φ':List Addr):Prop where
 base:B.le B'
 new:∀a o,B' a=some o→B a=some o∨P a=none
 pre:∀(i:Nat) a,φ[i]? = some a→φ'[i]? = some a
theorem Bj.refl(B:Aa)(φ:List Addr):Bj P B B φ φ:=⟨.refl B,λ_ _ e=>.inl e,λ_ _ e=>e⟩
theorem Bj.trans{φ φ' φ'':List Addr}(h:Bj P B B' φ φ')(h':Bj P B' B'' φ' φ''):Bj P B B'' φ φ'':=⟨h.base.trans h'.base,λa o e=>(h'.new a o e).elim (h.new a o) .inr,λi a e=>h'.pre i a (h.pre i a e)⟩
theorem VR.up{Z:Bz}{B B':Aa}{φ φ':List Addr}(m:B.le B')(p:∀(i:Nat) a,φ[i]? = some a→φ'[i]? = some a):∀{v:AV} {cv:Value},VR Z B φ v cv→VR Z B' φ' v cv
 | .d _,_,h=>Er.mono m h
 | .cell _,_,⟨a,e,h⟩=>⟨a,p _ _ e,h⟩
 | .hdr _,_,⟨x,a,e,h,k⟩=>⟨x,a,p _ _ e,h,k.mono m⟩
 | .g _,_,h=>h
 | .rng _,_,⟨r,t,u,w,e,h⟩=>⟨r,t,u,w,e,m _ _ h⟩
 | .dstr _,_,⟨a,e,h⟩=>⟨a,e,h.mono m⟩
 | .dint _,_,⟨a,e,h⟩=>⟨a,e,h.mono m⟩
 | .iset _,_,⟨a,e,h⟩=>⟨a,e,h.mono m⟩
theorem VR.mono(m:Bj P B B' φ φ')(h:VR Z B φ v cv):VR Z B' φ' v cv:=h.up m.base m.pre
structure Fi where
 env:Env
 fun_:env.scope.kind = .function
 glob:env.globals=mainGlobals
 blt:env.builtins=builtinsNs
 nod:(env.scope.names.map (·.1)).Nodup
 dbg:∀x∈env.scope.names.map (·.1),env.kindOf x≠some .globalImplicit→(x==("__debug__" : Str))=false
 apart:∀x y c,env.cells.lookup x=some c→env.cells.lookup y=some c→x=y
 bor:Str→Prop
 ms:Scope
 msn:ms.names.map (·.1)=env.scope.names.map (·.1)
 msk:∀y,ms.names.lookup y=env.scope.names.lookup y∨(ms.names.lookup y=some .free∧env.scope.names.lookup y=some .cell)
 msb:∀y,bor y→ms.names.lookup y=some .free
 has:∀y,env.kindOf y=some .cell→∃c,env.cells.lookup y=some c
noncomputable abbrev Fi.sc(F:Fi):Scope:=F.ms
noncomputable abbrev Fi.names(F:Fi):List Str:=F.env.scope.names.map (·.1)
noncomputable abbrev Fi.L(F:Fi):Addr:=F.env.locals
def I4(B:Aa)(F:Fi)(h:Heap)(m:Str→Option Value)(x:Str)(cv:Value):Prop:=
 (F.env.kindOf x=some .local∧m x=some cv)∨
 (F.env.kindOf x=some .cell∧∃c,F.env.cells.lookup x=some c∧h.IsCell c (some cv))∨
 (F.env.kindOf x=some .free∧(x==("__classdict__" : Str))=false∧∃c o,F.env.cells.lookup x=some c∧B c=some o∧o.data = .cell (some cv))
structure E4(Z:Bz)(P B:Aa)(φ:List Addr)(F:Fi)(loc:List (Option AV))(h:Heap):Prop where
 bL:B F.L=none
 pL:P F.L=none
 ns:∃m,h.Ns F.L m∧∀(i:Nat) x v,F.names[i]? = some x→loc[i]? = some (some v)→∃cv,I4 B F h m x cv∧VR Z B φ v cv
 cl:∀x c,F.env.kindOf x=some .cell→F.env.cells.lookup x=some c→((¬F.bor x∧B c=none∧P c=none)∨(F.bor x∧∃o,P c=some o))∧∃v,h.IsCell c v
 ll:loc.length=F.names.length
structure Fy(P B:Aa)(φ:List Addr)(cel:List Ad)(h:Heap):Prop where
 len:φ.length=cel.length
 ex:∀(i:Nat) a,φ[i]? = some a→∃o,h.get? a=some o
 at_:∀(i:Nat) xs,cel[i]? = some (.m xs)→∃a vs n,φ[i]? = some a∧(B a=none∧P a=none)∧h.get? a=some (Bp vs n)∧Reps B xs vs.toList
 fz:∀(i:Nat) xs,cel[i]? = some (.f xs)→∃a vs n,φ[i]? = some a∧B a=some (Bp vs n)∧Reps B xs vs.toList
 nod:φ.Nodup
theorem Ik{α:Type}{l:List α}(h:l.Nodup){i j:Nat}{a:α}(h1:l[i]? = some a)(h2:l[j]? = some a):i=j:=by
 obtain⟨l1,e1⟩:=List.getElem?_eq_some_iff.mp h1
 obtain⟨l2,e2⟩:=List.getElem?_eq_some_iff.mp h2
 exact(getElem_inj h).mp (e1.trans e2.symm)
structure G8(Z:Bz)(P B:Aa)(s:Shared):Prop where
 same:∃h tk,s={Z.s₀ with heap:=h,toks:=tk}
 old:∀a o,Z.s₀.heap.get? a=some o→B a=some o
 sub:B.ok s.heap
 prot:P.ok s.heap
structure B7(Z:Bz)(P B:Aa)(φ:List Addr)(cel:List Ad)(s:Shared):Prop where
 base:G8 Z P B s
 cells:Fy P B φ cel s.heap
structure Bm(Z:Bz)(P B:Aa)(φ:List Addr)(F:Fi)(σ:St)(s:Shared):Prop where
 toH:B7 Z P B φ σ.cel s
 frame:E4 Z P B φ F σ.loc s.heap
def Bo(h h':Heap):Prop:=∀b o,h.get? b=some o→h'.get? b=some o
theorem Bo.refl(h:Heap):Bo h h:=λ_ _ e=>e
theorem Bo.trans(x:Bo h h')(y:Bo h' h''):Bo h h'':=λb o e=>y b o (x b o e)
theorem Bo.push(h:Heap)(o:Obj):Bo h (h.push o):=λ_ _ e=>Heap.get?_push_of_some o e
theorem G8.to(x:G8 Z P B s)(hl:B.le B')(hs:B'.ok h')(hp:P.ok h'):G8 Z P B' {s with heap:=h',toks:=tk}:=by
 refine Op x.same λh t z=>?_
 subst z
 exact⟨⟨h',tk,rfl⟩,λa o e=>hl a o (x.old a o e),hs,hp⟩
theorem Aa.ok.none'{B:Aa}{h:Heap}(x:B.ok h){a:Addr}(e:h.get? a=none):B a=none:=by
 cases q:B a with
 | none=>rfl
 | some o=>rw[x a o q]at e;exact nso e
structure Eo(B B':Aa)(h h':Heap):Prop where
 keep:Bo h h'
 le:B.le B'
 ok:B'.ok h'
 new:∀b o,B' b=some o→B b=some o∨h.get? b=none
theorem Eo.off(x:Eo B B' h h')(hb:B a=none)(hh:h.get? a=some o):B' a=none:=by
 cases e:B' a with
 | none=>rfl
 | some o'=>
  rcases x.new a o' e with q | q
  ·rw[hb]at q;exact Am q
  ·rw[hh]at q;exact nso q
theorem Fy.grow(x:Fy P B φ cel h)(g:Eo B B' h h'):Fy P B' φ cel h':=
 ⟨x.len,λi a e=>(x.ex i a e).imp λ_=>g.keep _ _,λi xs e=>by
  refine Ar (x.at_ i xs e) λa vs n e1 e2 e3 e4=>?_
  exact⟨a,vs,n,e1,⟨g.off e2.1 e3,e2.2⟩,g.keep _ _ e3,e4.mono g.le⟩,λi xs e=>by
  refine Au (x.fz i xs e) λa vs n e1 e2 e3=>?_
  exact⟨a,vs,n,e1,g.le _ _ e2,e3.mono g.le⟩,x.nod⟩
theorem I4.grow(k:Bo h h')(le:B.le B')(s:I4 B F h m x cv):I4 B' F h' m x cv:=by
 rcases s with s | ⟨s1,c,s2,s3⟩ | ⟨s1,s0,c,o,s2,s3,s4⟩
 ·exact .inl s
 ·exact .inr (.inl ⟨s1,c,s2,s3.keeps k⟩)
 ·exact .inr (.inr ⟨s1,s0,c,o,s2,le _ _ s3,s4⟩)
theorem E4.grow(x:E4 Z P B φ F loc h)(g:Eo B B' h h')(hp:∀(i:Nat) a,φ[i]? = some a→φ'[i]? = some a):E4 Z P B' φ' F loc h':=by
 refine Aj x.ns λm hn hs=>?_
 refine Ip (id hn) λo _ _ ho _=>?_
 refine⟨g.off x.bL ho,x.pL,⟨m,hn.keeps g.keep,λi y v e1 e2=>?_⟩,λy c e1 e2=>?_,x.ll⟩
 ·refine Aj (hs i y v e1 e2) λcv a b=>?_
  exact⟨cv,a.grow g.keep g.le,b.up g.le hp⟩
 ·refine Fk (x.cl y c e1 e2) λa v o e3 e4=>?_
  exact⟨a.imp (λa=>⟨a.1,g.off a.2.1 e3,a.2.2⟩) id,v,o,g.keep _ _ e3,e4⟩
theorem B7.grow(x:B7 Z P B φ cel s)(g:Eo B B' s.heap h'):B7 Z P B' φ cel {s with heap:=h',toks:=tk}:=
 ⟨x.base.to g.le g.ok λa o e=>g.keep _ _ (x.base.prot a o e),x.cells.grow g⟩
theorem Eo.mono{P B B':Aa}{h h':Heap}(g:Eo B B' h h')(hp:P.ok h)(φ:List Addr):Bj P B B' φ φ:=
 ⟨g.le,λa o e=>(g.new a o e).imp id λq=>hp.none' q,λ_ _ e=>e⟩
theorem Bm.grow(x:Bm Z P B φ F σ s)(g:Eo B B' s.heap h'):Bm Z P B' φ F σ {s with heap:=h',toks:=tk}:=
 ⟨x.toH.grow g,x.frame.grow g λ_ _ e=>e⟩
theorem Azw(hb:B.ok h)(k:Bo h h'):Eo B B h h':=⟨k,.refl B,λa o e=>k _ _ (hb a o e),λ_ _ e=>.inl e⟩
theorem Bm.keep(x:Bm Z P B φ F σ s)(k:Bo s.heap h'):Bm Z P B φ F σ {s with heap:=h',toks:=tk}:=
 x.grow (Azw x.toH.base.sub k)
theorem Bm.toks(x:Bm Z P B φ F σ s)(tk:Nat):Bm Z P B φ F σ {s with toks:=tk}:=x.keep (Bo.refl _)
noncomputable def Aa.put(B:Aa)(a:Addr)(o:Obj):Aa:=λb=>if b=a then some o else B b
theorem Azk(B:Aa)(a:Addr)(o:Obj):B.put a o a=some o:=by simp[Aa.put]
theorem Azl(B:Aa)(o:Obj)(h:b≠a):B.put a o b=B b:=by simp[Aa.put,h]
theorem Azv{B:Aa}{a:Addr}{o:Obj}(h:B a=none):B.le (B.put a o):=λb o' e=>by
 by_cases q:b=a
 ·subst q;rw[h]at e;exact Am e
 ·rw[Azl B o q];exact e
theorem B0{h:Heap}{a:Addr}(q:h.objs.size≤a):h.get? a=none:=by
 cases e:h.get? a with
 | none=>rfl
 | some o=>exact absurd (Heap.lt_size e) (not_lt.mpr q)
theorem Aa.ok.none{B:Aa}{h:Heap}(x:B.ok h){a:Addr}(e:h.get? a=none):B a=none:=by
 cases q:B a with
 | none=>rfl
 | some o=>rw[x a o q]at e;exact nso e
theorem Eo.put{B:Aa}{h h':Heap}{a:Addr}{o:Obj}(hb:B.ok h)(k:Bo h h')(e:h.get? a=none)(e':h'.get? a=some o):Eo B (B.put a o) h h':=
 ⟨k,Azv (hb.none e),λb o' q=>by
  by_cases z:b=a
  ·subst z;rw[Azk]at q;refine Gc q ?_;exact e'
  ·rw[Azl B o z]at q;exact k _ _ (hb b o' q),λb o' q=>by
  by_cases z:b=a
  ·subst z;exact .inr e
  ·rw[Azl B o z]at q;exact .inl q⟩
theorem Fy.new(x:Fy P B φ cel h)(hb:B a=none∧P a=none)(ha:h.get? a=some (Bp vs n))(hr:Reps B xs vs.toList)
  (hf:∀(i:Nat) b,φ[i]? = some b→b≠a):Fy P B (φ++[a]) (cel++[.m xs]) h:=by
 have old:∀{i:Nat} {b:Addr},φ[i]? = some b→(φ++[a])[i]? = some b:=fun{i b} q=>by rw[List.getElem?_append_left (List.getElem?_eq_some_iff.mp q).1];exact q
 refine⟨by simp[x.len],λi b e=>?_,λi ys e=>?_,λi ys e=>?_,?_⟩
 ·by_cases q:i < φ.length
  ·rw[List.getElem?_append_left q]at e;exact x.ex i b e
  ·have:i=φ.length:=by
    have:=(List.getElem?_eq_some_iff.mp e).1
    simp at this;lia
   subst this
   simp at e;subst e
   exact⟨_,ha⟩
 ·by_cases q:i < cel.length
  ·rw[List.getElem?_append_left q]at e
   refine Ip (x.at_ i ys e) λb vs n e1 r=>?_
   exact⟨b,vs,n,old e1,r⟩
  ·have:i=cel.length:=by
    have:=(List.getElem?_eq_some_iff.mp e).1
    simp at this;lia
   subst this
   simp at e;subst e
   exact⟨a,vs,n,by rw[←x.len];simp,hb,ha,hr⟩
 ·by_cases q:i < cel.length
  ·rw[List.getElem?_append_left q]at e
   refine Ip (x.fz i ys e) λb vs n e1 r=>?_
   exact⟨b,vs,n,old e1,r⟩
  ·have:i=cel.length:=by
    have:=(List.getElem?_eq_some_iff.mp e).1
    simp at this;lia
   subst this
   simp at e
 ·rw[nodup_append]
  refine⟨x.nod,by simp,λb hb' c hc=>?_⟩
  simp only[mem_singleton]at hc
  refine xe (getElem?_of_mem hb') λi hi=>?_
  exact hc▸hf i b hi
theorem Bm.newCell{φ:List Addr}{σ:St}(x:Bm Z P B φ F σ s){tk:Nat}{a:Addr}{vs:Array Value}{n:Nat}{xs:List D}(k:Bo s.heap h')(e:s.heap.get? a=none)
  (e':h'.get? a=some (Bp vs n)) (hr:Reps B xs vs.toList):Bm Z P B (φ++[a]) F ⟨σ.loc,σ.cel++[.m xs]⟩ {s with heap:=h',toks:=tk}:=by
 have g:=Azw x.toH.base.sub k
 refine⟨⟨(x.toH.grow g).base,(x.toH.cells.grow g).new ⟨x.toH.base.sub.none e,x.toH.base.prot.none e⟩ e' hr λi b q=>?_⟩,x.frame.grow g λi b q=>?_⟩
 ·rintro rfl
  refine xe (x.toH.cells.ex i _ q) λo q=>?_
  rw[e]at q;exact Am q
 ·rw[List.getElem?_append_left (List.getElem?_eq_some_iff.mp q).1];exact q
theorem Bj.snoc:Bj P B B φ (φ++[a]):=⟨.refl B,λ_ _ e=>.inl e,λi b q=>by rw[List.getElem?_append_left (List.getElem?_eq_some_iff.mp q).1];exact q⟩
theorem Bw{α:Type}{l:List α}{i j:Nat}{x y:α}(h:(l.set i x)[j]? = some y):(j=i∧y=x∧i < l.length)∨(j≠i∧l[j]? = some y):=by
 rw[getElem?_set]at h
 split at h
 ·rename_i e
  split at h
  ·rename_i q;refine spr h ?_;exact .inl ⟨e.symm,rfl,q⟩
  ·exact Am h
 ·rename_i e;exact .inr ⟨λq=>e q.symm,h⟩
theorem Bm.setCell{Z:Bz}{P B:Aa}{φ:List Addr}{F:Fi}{σ:St}{s:Shared}(x:Bm Z P B φ F σ s){h':Heap}{tk:Nat}{i:Nat}{a:Addr}{vs:Array Value}{n:Nat}{xs ys:List D}(hi:σ.cel[i]? = some (.m xs))
  (ha:φ[i]? = some a) (k:∀b o,b≠a→s.heap.get? b=some o→h'.get? b=some o) (e':h'.get? a=some (Bp vs n)) (hr:Reps B ys vs.toList):
  Bm Z P B φ F ⟨σ.loc,σ.cel.set i (.m ys)⟩ {s with heap:=h',toks:=tk}:=by
 refine Ar (x.toH.cells.at_ i xs hi) λa' vs₀ n₀ q1 q2 q3 q4=>?_
 rw[ha]at q1;obtain rfl:=Option.some.inj q1
 have hB:B.ok h':=λb o e=>k b o (by rintro rfl;rw[q2.1]at e;exact Am e) (x.toH.base.sub b o e)
 have hP:P.ok h':=λb o e=>k b o (by rintro rfl;rw[q2.2]at e;exact Am e) (x.toH.base.prot b o e)
 refine Aj x.frame.ns λm hn hs=>?_
 have hne:∀b o,s.heap.get? b=some o→(∀vs n,o≠Bp vs n)→b≠a:=by
  rintro b o e hh rfl
  rw[q3]at e;obtain rfl:=Option.some.inj e;exact hh _ _ rfl
 refine⟨⟨⟨?_,x.toH.base.old,hB,hP⟩,⟨by simpa using x.toH.cells.len,λj b e=>?_,λj zs e=>?_,λj zs e=>?_,x.toH.cells.nod⟩⟩,⟨x.frame.bL,x.frame.pL,⟨m,?_,λj y v e1 e2=>?_⟩,λy c e1 e2=>?_,x.frame.ll⟩⟩
 ·refine Op x.toH.base.same λh t e=>?_
  exact⟨h',tk,by rw[e]⟩
 ·refine xe (x.toH.cells.ex j b e) λo q=>?_
  by_cases z:b=a
  ·subst z;exact⟨_,e'⟩
  ·exact⟨o,k b o z q⟩
 ·rcases Bw e with⟨rfl,e,_⟩ | ⟨hj,e⟩
  ·cases e;exact⟨a,vs,n,ha,q2,e',hr⟩
  ·refine Ar (x.toH.cells.at_ j zs e) λb ws n' r1 r2 r3 r4=>?_
   refine⟨b,ws,n',r1,r2,k b _ ?_ r3,r4⟩
   rintro rfl
   exact hj (Ik x.toH.cells.nod r1 ha)
 ·rcases Bw e with⟨rfl,e,_⟩ | ⟨hj,e⟩
  ·exact nomatch e
  ·exact x.toH.cells.fz j zs e
 ·refine Au hn λo es ep r1 r2 r3=>?_
  clear hn
  exact⟨o,es,ep,k _ _ (hne _ _ r1 λvs n q=>by rw[q]at r2;exact nomatch r2) r1,r2,r3⟩
 ·refine Aj (hs j y v e1 e2) λcv sl v=>?_
  refine⟨cv,?_,v⟩
  rcases sl with sl | ⟨s1,c,s2,o,s3,s4⟩ | sl
  ·exact .inl sl
  ·exact .inr (.inl ⟨s1,c,s2,o,k _ _ (hne _ _ s3 λvs n q=>by rw[q]at s4;exact nomatch s4) s3,s4⟩)
  ·exact .inr (.inr sl)
 ·refine Fk (x.frame.cl y c e1 e2) λr1 v o r2 r3=>?_
  exact⟨r1,v,o,k _ _ (hne _ _ r2 λvs n q=>by rw[q]at r3;exact nomatch r3) r2,r3⟩
theorem B7.freeze{Z:Bz}{P B:Aa}{φ:List Addr}{cel:List Ad}{s:Shared}(x:B7 Z P B φ cel s){i:Nat}{xs:List D}(hi:cel[i]? = some (.m xs)):
  ∃a vs n,φ[i]? = some a∧(B a=none∧P a=none)∧s.heap.get? a=some (Bp vs n)∧Reps B xs vs.toList∧B7 Z P (B.put a (Bp vs n)) φ (cel.set i (.f xs)) s:=by
 refine Ar (x.cells.at_ i xs hi) λa vs n q1 q2 q3 q4=>?_
 refine⟨a,vs,n,q1,q2,q3,q4,⟨x.base.same,λb o e=>Azv q2.1 b o (x.base.old b o e),λb o e=>?_,x.base.prot⟩,⟨by simpa using x.cells.len,x.cells.ex,λj zs e=>?_,λj zs e=>?_,x.cells.nod⟩⟩
 ·by_cases z:b=a
  ·subst z;rw[Azk]at e;refine Gc e ?_;exact q3
  ·rw[Azl B _ z]at e;exact x.base.sub b o e
 ·rcases Bw e with⟨_,e,_⟩ | ⟨hj,e⟩
  ·exact nomatch e
  ·refine Ar (x.cells.at_ j zs e) λb ws n' r1 r2 r3 r4=>?_
   refine⟨b,ws,n',r1,⟨?_,r2.2⟩,r3,r4.mono (Azv q2.1)⟩
   rw[Azl]
   ·exact r2.1
   ·rintro rfl
    exact hj (Ik x.cells.nod r1 q1)
 ·rcases Bw e with⟨rfl,e,_⟩ | ⟨hj,e⟩
  ·cases e;exact⟨a,vs,n,q1,Azk _ _ _,q4.mono (Azv q2.1)⟩
  ·refine Au (x.cells.fz j zs e) λb ws n' r1 r2 r3=>?_
   exact⟨b,ws,n',r1,Azv q2.1 _ _ r2,r3.mono (Azv q2.1)⟩
theorem E4.put{φ:List Addr}{loc:List (Option AV)}(x:E4 Z P B φ F loc h){a:Addr}{vs:Array Value}{n:Nat}(hb:B a=none)(ha:h.get? a=some (Bp vs n)):
  E4 Z P (B.put a (Bp vs n)) φ F loc h:=by
 refine Aj x.ns λm hn hs=>?_
 have hne:∀b o,h.get? b=some o→(∀vs n,o≠Bp vs n)→b≠a:=by
  rintro b o e hh rfl
  rw[ha]at e;obtain rfl:=Option.some.inj e;exact hh _ _ rfl
 refine⟨?_,x.pL,⟨m,hn,λj y v e1 e2=>?_⟩,λy c e1 e2=>?_,x.ll⟩
 ·refine Au hn λo es ep r1 r2 r3=>?_
  clear hn
  rw[Azl]
  ·exact x.bL
  ·exact hne _ _ r1 λvs n q=>by rw[q]at r2;exact nomatch r2
 ·refine Aj (hs j y v e1 e2) λcv sl v=>?_
  exact⟨cv,sl.grow (Bo.refl h) (Azv hb),v.up (Azv hb) λ_ _ e=>e⟩
 ·refine Fk (x.cl y c e1 e2) λr1 v o r2 r3=>?_
  refine⟨r1.imp (λr1=>⟨r1.1,?_,r1.2.2⟩) id,v,o,r2,r3⟩
  rw[Azl]
  ·exact r1.2.1
  ·exact hne _ _ r2 λvs n q=>by rw[q]at r3;exact nomatch r3
theorem Bm.freeze{φ:List Addr}{σ:St}(x:Bm Z P B φ F σ s){i:Nat}{xs:List D}(hi:σ.cel[i]? = some (.m xs)):
  ∃a vs n,φ[i]? = some a∧Bj P B (B.put a (Bp vs n)) φ φ∧B a=none∧s.heap.get? a=some (Bp vs n)∧Reps B xs vs.toList∧Bm Z P (B.put a (Bp vs n)) φ F ⟨σ.loc,σ.cel.set i (.f xs)⟩ s:=by
 refine E3 (x.toH.freeze hi) λa vs n q1 q2 q3 q4 q5=>?_
 refine⟨a,vs,n,q1,⟨Azv q2.1,λb o e=>?_,λ_ _ e=>e⟩,q2.1,q3,q4,q5,x.frame.put q2.1 q3⟩
 by_cases z:b=a
 ·subst z;exact .inr q2.2
 ·rw[Azl B _ z]at e;exact .inl e
theorem Bm.setLoc{Z:Bz}{P B:Aa}{φ:List Addr}{F:Fi}{σ:St}{s:Shared}{M:Model}{A:Around}{E:Value→Shared→Prop}{Q:Unit→Shared→Prop}(x:Bm Z P B φ F σ s){i:Nat}{y:Str}{v:AV}{cv:Value}
  (hi:F.names[i]? = some y) (hk:F.env.kindOf y=some .local∨(F.env.kindOf y=some .cell∧¬F.bor y∧∃c,F.env.cells.lookup y=some c)) (hv:VR Z B φ v cv)
  (h:∀s',Bm Z P B φ F ⟨σ.loc.set i (some v),σ.cel⟩ s'→Q () s') (hl:i < σ.loc.length):wpAny M A (storeName F.env y cv) Q E s:=by
 refine Aj x.frame.ns λm hn hs=>?_
 have same:∀h' tk,∃h₁ t₁,({s with heap:=h',toks:=tk}:Shared)={Z.s₀ with heap:=h₁,toks:=t₁}:=λh' tk=>by
  refine Op x.toH.base.same λh t e=>?_
  exact⟨h',tk,by rw[e]⟩
 have nameEq:∀(j:Nat) z,F.names[j]? = some z→z=y→j=i:=by
  rintro j z e rfl
  have l1:=(List.getElem?_eq_some_iff.mp e)
  have l2:=(List.getElem?_eq_some_iff.mp hi)
  obtain⟨l1,e1⟩:=l1
  obtain⟨l2,e2⟩:=l2
  exact(getElem_inj F.nod).mp (e1.trans e2.symm)
 have build:∀(h':Heap) (tk:Nat) (c:Addr),(B c=none∧P c=none)→(∀vs n,s.heap.get? c≠some (Bp vs n))→Heap.SameBut c s.heap h'→
   (∃m',h'.Ns F.L m'∧(∀(j:Nat) z u,F.names[j]? = some z→(σ.loc.set i (some v))[j]? = some (some u)→∃cv,I4 B F h' m' z cv∧VR Z B φ u cv))→
   (∀z d,F.env.kindOf z=some .cell→F.env.cells.lookup z=some d→∃v,h'.IsCell d v)→(∀o,s.heap.get? c=some o→∃o',h'.get? c=some o')→Bm Z P B φ F ⟨σ.loc.set i (some v),σ.cel⟩ {s with heap:=h',toks:=tk}:=by
  intro h' tk c hB hnl hsb hns hcl hex
  have keep:∀b o,b≠c→s.heap.get? b=some o→h'.get? b=some o:=λb o z e=>(hsb.2 b z).trans e
  refine⟨⟨⟨same h' tk,x.toH.base.old,λb o e=>keep b o (by rintro rfl;rw[hB.1]at e;exact Am e) (x.toH.base.sub b o e),λb o e=>keep b o (by rintro rfl;rw[hB.2]at e;exact Am e) (x.toH.base.prot b o e)⟩,⟨x.toH.cells.len,λj b e=>?_,λj zs e=>?_,x.toH.cells.fz,x.toH.cells.nod⟩⟩,
   ⟨x.frame.bL,x.frame.pL,hns,λz d e1 e2=>⟨(x.frame.cl z d e1 e2).1,hcl z d e1 e2⟩,by simpa using x.frame.ll⟩⟩
  ·refine xe (x.toH.cells.ex j b e) λo q=>?_
   by_cases z:b=c
   ·subst z;exact hex o q
   ·exact⟨o,keep b o z q⟩
  ·refine Ar (x.toH.cells.at_ j zs e) λa ws n' r1 r2 r3 r4=>?_
   exact⟨a,ws,n',r1,r2,keep a _ (by rintro rfl;exact hnl _ _ r3) r3,r4⟩
 rcases hk with hk | ⟨hk,hnb,c,hc⟩
 ·refine wpAny_storeName_local hk hn (λh' hn' hsb=>h _ ?_) (by rw[F.fun_];rfl)
  refine Au (id hn) λoL es ep hoL hdL hnr=>?_
  refine build h' _ F.L ⟨x.frame.bL,x.frame.pL⟩ (λvs n e=>by rw[hoL]at e;obtain rfl:=Option.some.inj e;cases hdL) hsb ⟨_,hn',λj z u e1 e2=>?_⟩ (λz d e1 e2=>?_) (λo _=>by obtain⟨o',_,_,q,_⟩:=hn';exact⟨o',q⟩)
  ·rcases Bw e2 with⟨rfl,e,_⟩ | ⟨hj,e⟩
   ·refine spr e ?_
    rw[hi]at e1;cases e1
    exact⟨cv,.inl ⟨hk,by simp⟩,hv⟩
   ·refine Aj (hs j z u e1 e) λcw sl w=>?_
    have hz:z≠y:=λq=>hj (nameEq j z e1 q)
    refine⟨cw,?_,w⟩
    rcases sl with⟨s1,s2⟩ | ⟨s1,d,s2,s3⟩ | sl
    ·exact .inl ⟨s1,by simpa [hz]using s2⟩
    ·refine .inr (.inl ⟨s1,d,s2,s3.sameBut hsb ?_⟩)
     rintro rfl
     refine Aj s3 λo q1 q2=>?_
     clear s3
     rw[hoL]at q1;obtain rfl:=Option.some.inj q1;rw[hdL]at q2;exact nomatch q2
    ·exact .inr (.inr sl)
  ·refine xae (x.frame.cl z d e1 e2) λ_ v s3=>?_
   refine⟨v,s3.sameBut hsb ?_⟩
   rintro rfl
   refine Aj s3 λo q1 q2=>?_
   clear s3
   rw[hoL]at q1;obtain rfl:=Option.some.inj q1;rw[hdL]at q2;exact nomatch q2
 ·refine xae (x.frame.cl y c hk hc) λhBc' v₀ hcell=>?_
  have hBc:B c=none∧P c=none:=by
   rcases hBc' with h | h
   ·exact h.2
   ·exact absurd h.1 hnb
  refine wpAny_storeName_cell F.fun_ hk hc hcell λh' hc' hsb=>h _ ?_
  refine Aj (id hcell) λoc hoc hdc=>?_
  refine Au (id hn) λoL es ep hoL hdL hnr=>?_
  have hLc:F.L≠c:=by rintro q;rw[q,hoc]at hoL;obtain rfl:=Option.some.inj hoL;rw[hdL]at hdc;exact nomatch hdc
  refine build h' s.toks c hBc (λvs n e=>by rw[hoc]at e;obtain rfl:=Option.some.inj e;cases hdc) hsb ⟨m,hn.sameBut hsb hLc,λj z u e1 e2=>?_⟩ (λz d e1 e2=>?_) (λo _=>hc'.imp λ_ q=>q.1)
  ·rcases Bw e2 with⟨rfl,e,_⟩ | ⟨hj,e⟩
   ·refine spr e ?_
    rw[hi]at e1;cases e1
    exact⟨cv,.inr (.inl ⟨hk,c,hc,hc'⟩),hv⟩
   ·refine Aj (hs j z u e1 e) λcw sl w=>?_
    have hz:z≠y:=λq=>hj (nameEq j z e1 q)
    refine⟨cw,?_,w⟩
    rcases sl with sl | ⟨s1,d,s2,s3⟩ | sl
    ·exact .inl sl
    ·exact .inr (.inl ⟨s1,d,s2,s3.sameBut hsb λq=>hz (F.apart z y c (q▸s2) hc)⟩)
    ·exact .inr (.inr sl)
  ·by_cases q:d=c
   ·subst q;exact⟨_,hc'⟩
   ·refine xae (x.frame.cl z d e1 e2) λ_ v s3=>?_
    exact⟨v,s3.sameBut hsb q⟩
structure Dk(k:Nat)(A:Around):Prop where
 hd:A.handled=none
 dp:A.depth+k < 900
 un:A.units+20*k < 9000
theorem Dk.mono(h:Dk k A)(hj:j≤k):Dk j A:=⟨h.hd,by have:=h.dp;lia,by have:=h.un;lia⟩
theorem Dk.depth(h:Dk k A):A.depth < recursionLimit:=by have:=h.dp;dsimp only[recursionLimit];lia
theorem Dk.units(h:Dk k A):A.units < cLine:=by have:=h.un;dsimp only[cLine];lia
theorem Dk.deeper(h:Dk (k+1) A)(env:Env):Dk k (A.deeper env):=
 ⟨h.hd,by have:=h.dp;show A.depth+1+k < 900;lia,by have:=h.un;show A.units+3+20*k < 9000;lia⟩
def J(Z:Bz)(k:Nat)(F:Fi)(t:Sem α)(σ:St)(R:Aa→List Addr→α→Prop)(σ':St):Prop:=
 ∀(A:Around) (P B:Aa) (φ:List Addr) (s:Shared) (Q:α→Shared→Prop) (E:Value→Shared→Prop),Dk k A→Bm Z P B φ F σ s→
  (∀B' φ' s' r,Bm Z P B' φ' F σ' s'→Bj P B B' φ φ'→R B' φ' r→Q r s')→wpAny Z.M A t Q E s
noncomputable abbrev EV(Z:Bz)(k:Nat)(F:Fi)(e:Expr)(σ:St)(v:AV)(σ':St):Prop:=J Z k F (eval e F.env) σ (λB φ cv=>VR Z B φ v cv) σ'
noncomputable abbrev TV(Z:Bz)(k:Nat)(F:Fi)(e:Expr)(σ:St)(b:Bool)(σ':St):Prop:=J Z k F (isTrue e F.env (eval e F.env)) σ (λ_ _ r=>r=b) σ'
inductive H2(Z:Bz)(B:Aa)(φ:List Addr):List AV→List Value→Prop
 | nil:H2 Z B φ [] []
 | cons {v:AV} {cv:Value} {vs:List AV} {cvs:List Value}:VR Z B φ v cv→H2 Z B φ vs cvs→H2 Z B φ (v::vs) (cv::cvs)
theorem H2.mono(m:Bj P B B' φ φ')(h:H2 Z B φ vs cvs):H2 Z B' φ' vs cvs:=by
 induction h with
 | nil=>exact .nil
 | cons h _ ih=>exact .cons (h.mono m) ih
noncomputable abbrev EVs(Z:Bz)(k:Nat)(F:Fi)(es:List Expr)(σ:St)(vs:List AV)(σ':St):Prop:=
 ∀pos,J Z k F (spliced (backTo pos (starEach es F.env))) σ (λB φ cvs=>H2 Z B φ vs cvs) σ'
def FlR(Z:Bz)(B:Aa)(φ:List Addr):Fl→Flow→Prop
 | .next,f=>f = .next
 | .brk,f=>f = .brk
 | .cont,f=>f = .cont
 | .ret v,f=>∃cv,f = .ret cv∧VR Z B φ v cv
theorem FlR.mono(m:Bj P B B' φ φ'):∀{fl:Fl} {f:Flow},FlR Z B φ fl f→FlR Z B' φ' fl f
 | .next,_,h=>h
 | .brk,_,h=>h
 | .cont,_,h=>h
 | .ret _,_,⟨cv,e,h⟩=>⟨cv,e,h.mono m⟩
noncomputable abbrev EX(Z:Bz)(k:Nat)(F:Fi)(st:Stmt)(σ:St)(fl:Fl)(σ':St):Prop:=J Z k F (exec st F.env) σ (λB φ f=>FlR Z B φ fl f) σ'
noncomputable abbrev XS(Z:Bz)(k:Nat)(F:Fi)(sts:List Stmt)(σ:St)(fl:Fl)(σ':St):Prop:=J Z k F (execs sts F.env) σ (λB φ f=>FlR Z B φ fl f) σ'
def CL(Z:Bz)(k:Nat)(f:Value)(args:List AV)(cel:List Ad)(v:AV)(cel':List Ad):Prop:=
 ∀(A:Around) (P B:Aa) (φ:List Addr) (s:Shared) (vals:List Value) (Q E:Value→Shared→Prop),Dk k A→B7 Z P B φ cel s→H2 Z B φ args vals→
  (∀B' φ' s' cv,B7 Z P B' φ' cel' s'→Bj P B B' φ φ'→VR Z B' φ' v cv→Q cv s')→wpAny Z.M A (call f vals) Q E s
section
variable {Z:Bz} {k:Nat} {F:Fi} {σ σ₁ σ₂ σ₃:St}
theorem J.now (h:∀(A:Around) (P B:Aa) (φ:List Addr) (s:Shared) (Q:α→Shared→Prop) (E:Value→Shared→Prop),Dk k A→Bm Z P B φ F σ s→
  (∀r tk,R B φ r→Q r {s with toks:=tk})→wpAny Z.M A t Q E s):J Z k F t σ R σ:=
 λA P B φ s Q E hA x q=>h A P B φ s Q E hA x λr tk z=>q B φ _ r (x.toks tk) (.refl B φ) z
theorem J.bind{α β:Type}{t:Sem α}{f:α→Sem β}{R₁:Aa→List Addr→α→Prop}{R:Aa→List Addr→β→Prop}(h:J Z k F t σ R₁ σ₁)
  (h':∀(A:Around) (P B₀ B:Aa) (φ₀ φ:List Addr) (s:Shared) (r:α) (Q:β→Shared→Prop) (E:Value→Shared→Prop),Dk k A→Bm Z P B φ F σ₁ s→R₁ B φ r→Bj P B₀ B φ₀ φ→
   (∀B' φ' s' r',Bm Z P B' φ' F σ₂ s'→Bj P B B' φ φ'→R B' φ' r'→Q r' s')→wpAny Z.M A (f r) Q E s):J Z k F (t >>= f) σ R σ₂:=
 λA P B φ s Q E hA x q=>wpAny_bind (h A P B φ s _ E hA x λB' φ' s' r y m z=>h' A P B B' φ φ' s' r Q E hA y z m λB'' φ'' s'' r' y' m' z'=>q B'' φ'' s'' r' y' (m.trans m') z')
theorem Ak7:EV Z k F (.Constant (.int i) n p) σ (.d (.int i)) σ:=
 J.now λ_ _ _ _ _ _ _ _ _ q=>wpAny_Constant_int (q _ _ ⟨_,rfl⟩)
theorem Al0:EV Z k F (.Constant (.str y) n p) σ (.d (.str y)) σ:=
 J.now λ_ _ _ _ _ _ _ _ _ q=>wpAny_Constant_str (q _ _ ⟨_,rfl⟩)
theorem Ahw:EV Z k F (.Constant .none n p) σ (.d .none) σ:=
 J.now λ_ _ _ _ s _ _ _ _ q=>wpAny_Constant_none (q _ s.toks rfl)
theorem Wv:EV Z k F (.Constant (.bool b) n p) σ (.d (.bool b)) σ:=
 J.now λ_ _ _ _ s _ _ _ _ q=>wpAny_Constant_bool (q _ s.toks rfl)
theorem Kc(i:Nat)(hi:F.names[i]? = some y)(hv:σ.loc[i]? = some (some v)):EV Z k F (.Name y p) σ v σ:=
 J.now λA P B φ s Q E hA x q=>by
  refine Aj x.frame.ns λm hn hs=>?_
  refine Aj (hs i y v hi hv) λcv sl hr=>?_
  have hd:=F.dbg y (mem_of_getElem? hi) (by rcases sl with⟨s1,_⟩ | ⟨s1,_⟩ | ⟨s1,_⟩<;>(rw[s1];simp))
  refine wpAny_Name ?_ hd
  rcases sl with⟨s1,s2⟩ | ⟨s1,c,s2,s3⟩ | ⟨s1,s0,c,o,s2,s3,s4⟩
  ·exact wpAny_loadName_local F.fun_ s1 hn s2 (q _ s.toks hr)
  ·exact wpAny_loadName_cell F.fun_ s1 s2 s3 (q _ s.toks hr)
  ·exact wpAny_loadName_free F.fun_ s1 s2 ⟨o,x.toH.base.sub _ _ s3,s4⟩ (q _ s.toks hr) s0
theorem G8.g(x:G8 Z P B s):Bo Z.s₀.heap s.heap:=λb o e=>x.sub b o (x.old b o e)
theorem Ald(hk:F.env.kindOf y=some .globalImplicit)(hg:Z.mg y=none)(hv:Z.mb y=some v)(hd:(y==("__debug__" : Str))=false):EV Z k F (.Name y p) σ (.g v) σ:=
 J.now λA P B φ s Q E hA x q=>Name_function_global F.fun_ hk (loadGlobal_builtin (F.glob▸Z.g.keeps x.toH.base.g) hg (F.blt▸Z.b.keeps x.toH.base.g) hv (q _ s.toks rfl)) hd
theorem Aki(hl:EV Z k F l σ a σ₁)(hr:EV Z k F r σ₁ b σ₂)
  (ho:∀(A:Around) (P B:Aa) (φ:List Addr) (s:Shared) (ca cb:Value) (Q E:Value→Shared→Prop),Dk k A→Bm Z P B φ F σ₂ s→VR Z B φ a ca→VR Z B φ b cb→
   (∀B' φ' s' cv,Bm Z P B' φ' F σ₃ s'→Bj P B B' φ φ'→VR Z B' φ' v cv→Q cv s')→wpAny Z.M A (binaryOp op ca cb) Q E s):EV Z k F (.BinOp l op r p) σ v σ₃:=by
 intro A P B φ s Q E hA x q
 refine wpAny_BinOp (hl A P B φ s _ E hA x λB₁ φ₁ s₁ ca x₁ m₁ va=>hr A P B₁ φ₁ s₁ _ E hA x₁ λB₂ φ₂ s₂ cb x₂ m₂ vb=>?_)
 exact ho A P B₂ φ₂ s₂ ca cb Q E hA x₂ (va.mono m₂) vb λB₃ φ₃ s₃ cv x₃ m₃ vv=>q B₃ φ₃ s₃ cv x₃ ((m₁.trans m₂).trans m₃) vv
theorem Ams(h:TV Z k F e σ c σ₁):TV Z k F (.UnaryOp .Not e p) σ (!c) σ₁:=by
 intro A P B φ s Q E hA x q
 exact wpAny_isTrue_Not (h A P B φ s _ E hA x λB₁ φ₁ s₁ r x₁ m₁ e₁=>by subst e₁;exact q B₁ φ₁ s₁ _ x₁ m₁ rfl)
theorem Pf(h:EV Z k F e σ (.d (.bool c)) σ₁)
  (he:isTrue e F.env (eval e F.env)=(do let v ←eval e F.env;standAt e.pos;holding [v] (truthy v))):TV Z k F e σ c σ₁:=by
 intro A P B φ s Q E hA x q
 refine wpAny_isTrue_value (h A P B φ s _ E hA x λB₁ φ₁ s₁ cv x₁ m₁ e₁=>?_) he
 have e₂:cv = .bool c:=by simpa [VR,Er]using e₁
 subst e₂
 exact wpAny_truthy_bool (q B₁ φ₁ s₁ _ x₁ m₁ rfl)
theorem U1(h₁:TV Z k F e₁ σ c σ₁)(h₂:c=true→TV Z k F e₂ σ₁ d σ₂)(hf:c=false→σ₂=σ₁):TV Z k F (.BoolOp .And [e₁,e₂] p) σ (c&&d) σ₂:=by
 intro A P B φ s Q E hA x q
 refine wpAny_isTrue_BoolOp (wpAny_allTrue_And_cons (h₁ A P B φ s _ E hA x λB₁ φ₁ s₁ r x₁ m₁ z₁=>?_))
 have z₁:r=c:=z₁
 subst r
 induction c with
 | false=>have:=hf rfl;subst this;exact q B₁ φ₁ s₁ _ x₁ m₁ rfl
 | true=>
  refine wpAny_allTrue_And_cons (h₂ rfl A P B₁ φ₁ s₁ _ E hA x₁ λB₂ φ₂ s₂ r x₂ m₂ z₂=>?_)
  have z₂:r=d:=z₂
  subst r
  induction d with
  | false=>exact q B₂ φ₂ s₂ _ x₂ (m₁.trans m₂) rfl
  | true=>exact wpAny_allTrue_And_nil (q B₂ φ₂ s₂ _ x₂ (m₁.trans m₂) rfl)
theorem Aa4(h₁:TV Z k F e₁ σ c σ₁)(h₂:c=false→TV Z k F e₂ σ₁ d σ₂)(hf:c=true→σ₂=σ₁):TV Z k F (.BoolOp .Or [e₁,e₂] p) σ (c||d) σ₂:=by
 intro A P B φ s Q E hA x q
 refine wpAny_isTrue_BoolOp (wpAny_allTrue_Or_cons (h₁ A P B φ s _ E hA x λB₁ φ₁ s₁ r x₁ m₁ z₁=>?_))
 have z₁:r=c:=z₁
 subst r
 induction c with
 | true=>have:=hf rfl;subst this;exact q B₁ φ₁ s₁ _ x₁ m₁ rfl
 | false=>
  refine wpAny_allTrue_Or_cons (h₂ rfl A P B₁ φ₁ s₁ _ E hA x₁ λB₂ φ₂ s₂ r x₂ m₂ z₂=>?_)
  have z₂:r=d:=z₂
  subst r
  induction d with
  | true=>exact q B₂ φ₂ s₂ _ x₂ (m₁.trans m₂) rfl
  | false=>exact wpAny_allTrue_Or_nil (q B₂ φ₂ s₂ _ x₂ (m₁.trans m₂) rfl)
theorem Ai9(h:TV Z k F t σ c σ₁)(h₁:c=true→EV Z k F b σ₁ v σ₂)(h₂:c=false→EV Z k F o σ₁ v σ₂):EV Z k F (.IfExp t b o p) σ v σ₂:=by
 intro A P B φ s Q E hA x q
 refine wpAny_IfExp (h A P B φ s _ E hA x λB₁ φ₁ s₁ r x₁ m₁ z₁=>?_)
 have z₁:r=c:=z₁
 subst r
 induction c with
 | true=>exact h₁ rfl A P B₁ φ₁ s₁ Q E hA x₁ λB₂ φ₂ s₂ cv x₂ m₂ e₂=>q B₂ φ₂ s₂ cv x₂ (m₁.trans m₂) e₂
 | false=>exact h₂ rfl A P B₁ φ₁ s₁ Q E hA x₁ λB₂ φ₂ s₂ cv x₂ m₂ e₂=>q B₂ φ₂ s₂ cv x₂ (m₁.trans m₂) e₂
theorem Aa5:XS Z k F [] σ .next σ:=λ_ _ B φ s _ _ _ x q=>wpAny_execs_nil (q B φ s _ x (.refl B φ) rfl)
theorem W4{st:Stmt}{rest:List Stmt}{fl:Fl}(h:EX Z k F st σ .next σ₁)(h':XS Z k F rest σ₁ fl σ₂):XS Z k F (st::rest) σ fl σ₂:=by
 intro A P B φ s Q E hA x q
 refine wpAny_execs_cons (h A P B φ s _ E hA x λB₁ φ₁ s₁ f x₁ m₁ e₁=>?_)
 have:f = .next:=e₁
 subst this
 exact h' A P B₁ φ₁ s₁ Q E hA x₁ λB₂ φ₂ s₂ f x₂ m₂ e₂=>q B₂ φ₂ s₂ f x₂ (m₁.trans m₂) e₂
theorem Yh(h:EV Z k F e σ v σ₁):EX Z k F (.Return (some e) p) σ (.ret v) σ₁:=by
 intro A P B φ s Q E hA x q
 exact wpAny_Return_some (h A P B φ s _ E hA x λB₁ φ₁ s₁ cv x₁ m₁ e₁=>q B₁ φ₁ s₁ _ x₁ m₁ ⟨cv,rfl,e₁⟩)
theorem Ahb:EX Z k F (.Pass p) σ .next σ:=λ_ _ B φ s _ _ _ x q=>wpAny_Pass (q B φ s _ x (.refl B φ) rfl)
theorem Aa3(h:TV Z k F t σ c σ₁)(h₁:c=true→XS Z k F b σ₁ fl σ₂)(h₂:c=false→XS Z k F o σ₁ fl σ₂):EX Z k F (.If t b o p) σ fl σ₂:=by
 intro A P B φ s Q E hA x q
 refine wpAny_If (h A P B φ s _ E hA x λB₁ φ₁ s₁ r x₁ m₁ z₁=>?_)
 have z₁:r=c:=z₁
 subst r
 induction c with
 | true=>exact h₁ rfl A P B₁ φ₁ s₁ Q E hA x₁ λB₂ φ₂ s₂ cv x₂ m₂ e₂=>q B₂ φ₂ s₂ cv x₂ (m₁.trans m₂) e₂
 | false=>exact h₂ rfl A P B₁ φ₁ s₁ Q E hA x₁ λB₂ φ₂ s₂ cv x₂ m₂ e₂=>q B₂ φ₂ s₂ cv x₂ (m₁.trans m₂) e₂
def Fi.may(F:Fi)(i:Nat)(y:Str):Prop:=F.names[i]? = some y∧(F.env.kindOf y=some .local∨(F.env.kindOf y=some .cell∧¬F.bor y∧∃c,F.env.cells.lookup y=some c))
theorem Ae4:EVs Z k F [] σ [] σ:=λ_ _ _ B φ s _ _ _ x q=>wpAny_items_nil (q B φ s _ x (.refl B φ) .nil)
theorem Zr(h:EV Z k F e σ v σ₁)(h':EVs Z k F es σ₁ vs σ₂)
  (he:starEach (e::es) F.env=(false,eval e F.env)::starEach es F.env):EVs Z k F (e::es) σ (v::vs) σ₂:=by
 intro pos A P B φ s Q E hA x q
 refine wpAny_items_cons (h A P B φ s _ E hA x λB₁ φ₁ s₁ cv x₁ m₁ e₁=>h' pos A P B₁ φ₁ s₁ _ E hA x₁ λB₂ φ₂ s₂ cvs x₂ m₂ e₂=>?_) he
 exact q B₂ φ₂ s₂ _ x₂ (m₁.trans m₂) (.cons (e₁.mono m₂) e₂)
end
section
variable {Z:Bz} {k:Nat} {F:Fi} {σ σ₁ σ₂ σ₃:St}
theorem C7(h:fits n=true):n≤sizeLine:=le_trans (le_of_ble_eq_true h) (by rw[sizeLine_eq];decide)
set_option tactic.hygienic true in
theorem Ct(x:B7 Z P B φ cel s)(h:Aw cel a=some xs)(hv:VR Z B φ a ca):
  ∃l vs n,ca = .ref l∧s.heap.get? l=some (Bp vs n)∧Reps B xs vs.toList:=by
 delta Aw at h
 split at h
 ·refine Gc h ?_
  refine Au hv λa n vs z h1 h2=>?_
  clear hv
  subst z
  exact⟨a,vs,n,rfl,x.base.sub _ _ h1,h2⟩
 ·rename_i i
  refine Ch h λc h1 z=>?_
  clear h
  subst z
  refine Aj hv λa e z=>?_
  clear hv
  subst z
  induction c with
  | m ys=>
   refine Ar (x.cells.at_ i ys h1) λb vs n q1 _ q2 q3=>?_
   rw[e]at q1;obtain rfl:=Option.some.inj q1
   exact⟨a,vs,n,rfl,q2,q3⟩
  | f ys=>
   refine Au (x.cells.fz i ys h1) λb vs n q1 q2 q3=>?_
   rw[e]at q1;obtain rfl:=Option.some.inj q1
   exact⟨a,vs,n,rfl,x.base.sub _ _ q2,q3⟩
 ·exact Am h
theorem Io(x:Bm Z P B φ F σ s)(hr:Reps B xs vs.toList)(tk:Nat):
  Bm Z P B (φ++[s.heap.objs.size]) F (newCell σ xs).2 {s with heap:=s.heap.push (Bp vs n),toks:=tk}∧Bj P B B φ (φ++[s.heap.objs.size])∧VR Z B (φ++[s.heap.objs.size]) (newCell σ xs).1 (.ref s.heap.objs.size):=by
 refine⟨x.newCell (Bo.push _ _) (B0 (le_refl _)) (Heap.get?_push_size _ rfl) hr,Bj.snoc,s.heap.objs.size,?_,rfl⟩
 rw[←x.toH.cells.len]
 simp
def OpV(Z:Bz)(k:Nat)(F:Fi)(t:Value→Value→Sem Value)(a b:AV)(σ:St)(v:AV)(σ':St):Prop:=
 ∀(A:Around) (P B:Aa) (φ:List Addr) (s:Shared) (ca cb:Value) (Q E:Value→Shared→Prop),Dk k A→Bm Z P B φ F σ s→VR Z B φ a ca→VR Z B φ b cb→
   (∀B' φ' s' cv,Bm Z P B' φ' F σ' s'→Bj P B B' φ φ'→VR Z B' φ' v cv→Q cv s')→wpAny Z.M A (t ca cb) Q E s
theorem Ajt(h:Aql op i j=some z):OpV Z k F (binaryOp op) (.d (.int i)) (.d (.int j)) σ (.d (.int z)) σ:=by
 intro A P B φ s ca cb Q E hA x va vb q
 refine xe va λta z1=>?_
 clear va
 subst z1
 refine xe vb λtb z1=>?_
 clear vb
 subst z1
 have same:Q (.int z s.toks) {s with toks:=s.toks+1}:=q B φ _ _ (x.toks _) (.refl B φ) ⟨_,rfl⟩
 induction op with
 | Add=>exact PyProof.Rows.add_int ((Option.some.inj h).symm▸same)
 | Sub=>exact PyProof.Rows.sub_int ((Option.some.inj h).symm▸same)
 | BitOr=>exact PyProof.Rows.or_int ((Option.some.inj h).symm▸same)
 | BitAnd=>exact PyProof.Rows.and_int ((Option.some.inj h).symm▸same)
 | BitXor=>exact PyProof.Rows.xor_int ((Option.some.inj h).symm▸same)
 | LShift=>
  have g:=Bf h
  have hc:=of_decide_eq_true g.1
  exact PyProof.Rows.lshift_int_small hc.1 (by omega) hc.2.2 (g.2.symm▸same)
 | RShift=>
  have g:=Bf h
  exact PyProof.Rows.rshift_int (of_decide_eq_true g.1) (g.2.symm▸same)
 | FloorDiv=>
  have g:=Bf h
  have hc:=of_decide_eq_true g.1
  exact PyProof.Rows.floordiv_int hc.1 (g.2.symm▸same) (.inl (PyProof.noPylong_small hc.2))
 | Mod=>
  have g:=Bf h
  exact PyProof.Rows.mod_int (of_decide_eq_true g.1) (g.2.symm▸same)
 | _=>exact Am h
theorem Agh(h:Ars y z=some w):OpV Z k F (binaryOp .Add) (.d (.str y)) (.d (.str z)) σ (.d (.str w)) σ:=by
 intro A P B φ s ca cb Q E hA x va vb q
 refine xe va λta z1=>?_
 clear va
 subst z1
 refine xe vb λtb z1=>?_
 clear vb
 subst z1
 have g:=Bf h
 exact PyProof.Rows.add_str (λt' tk=>q B φ _ _ (x.toks tk) (.refl B φ) ⟨_,congrArg (λw=>Value.str w t') g.2⟩) (C7 g.1)
theorem Aht(h1:Aw σ.cel a=some xs)(h2:Aw σ.cel b=some ys)(h:Ane xs ys=some zs):OpV Z k F (binaryOp .Add) a b σ (newCell σ zs).1 (newCell σ zs).2:=by
 intro A P B φ s ca cb Q E hA x va vb q
 refine Au (Ct x.toH h1 va) λl vs n z e1 r1=>?_
 subst z
 refine Au (Ct x.toH h2 vb) λl' vs' n' z e2 r2=>?_
 subst z
 have g:=Bf h
 have hsz:vs.size+vs'.size≤sizeLine:=by
  have a1:=r1.length;have a2:=r2.length
  dsimp only[length_toList]at a1 a2
  rw[a1,a2];exact C7 g.1
 have hr:Reps B zs (vs++vs').toList:=by rw[toList_append,←g.2];exact r1.append r2
 have y:=Io x (n:=0) hr s.toks
 exact PySem.P.add_list (items:=vs) (n:=n) (items2:=vs') (n2:=n') e1 e2 (q _ _ _ _ y.1 y.2.1 y.2.2) hsz
theorem Yc(h:Aih op=true):op = .Add:=by rcases op<;>first | rfl | exact Ff h
theorem Abc(h:binop op a b σ=some (v,σ₁)):OpV Z k F (binaryOp op) a b σ v σ₁:=by
 rcases el h with⟨_,h⟩ | ⟨i,ha,h⟩
 ·have c:=cd h
  rw[Yc c.1]
  rcases el c.2 with⟨_,h⟩ | ⟨y,ha,h⟩
  ·refine Ch h λzs h3 e=>?_
   refine Ay h3 λxs h1 h4=>?_
   refine Ay h4 λys h2 h5=>?_
   refine Cp e ?_
   exact Aht h1 h2 h5
  ·refine Ch h λw h3 e=>?_
   refine Ay h3 λz h1 h4=>?_
   refine Cp e ?_
   rw[Cn ha,Cn h1]
   exact Agh h4
 ·refine Ch h λz h3 e=>?_
  refine Ay h3 λj h1 h4=>?_
  refine Cp e ?_
  rw[D2 ha,D2 h1]
  exact Ajt h4
end
end
noncomputable section
open PySem PySem.W PySem.Calls PyProof.Rows PySem.Spec PySem.SeqAt
section
variable {Z:Bz} {k:Nat} {F:Fi} {σ σ₁ σ₂ σ₃:St}
def Rf(Z:Bz)(k:Nat)(op:CmpOp)(a b:AV)(cel:List Ad)(c:Bool):Prop:=
 ∀(A:Around) (P B:Aa) (φ:List Addr) (s:Shared) (ca cb:Value) (Q E:Value→Shared→Prop),Dk k A→B7 Z P B φ cel s→VR Z B φ a ca→VR Z B φ b cb→
  (∀tk,Q (.bool c) {s with toks:=tk})→wpAny Z.M A (compareOp op ca cb) Q E s
theorem An{h:Heap}{l:Addr}{vs:Array Value}{n:Nat}(e:h.get? l=some (Bp vs n)):h.IsList l vs:=⟨_,e,rfl,n,rfl⟩
theorem M1(hf:∀a b v c,Er B a v→Er B b v→f a b=some c→c=true):∀{l m:List D} {vs:List Value} {c:Bool},Reps B l vs→Reps B m vs→Zk f l m=some c→c=true
 | [],_,_,_,_,_,h=>(Bf h).2.symm
 | a::l,[],vs,c,r1,r2,h=>nomatch h
 | a::l,b::m,vs,c,r1,r2,h=>by
  refine Ay h λx h1 h2=>?_
  refine Ch h2 λy h3 e=>?_
  refine Cc r1 λv ws z p1 p2=>?_
  clear r1
  subst z
  refine Cc r2 λv' ws' e' q1 q2=>?_
  clear r2
  cases e'
  rw[←e,hf _ _ _ _ p1 q1 h1,M1 hf p2 q2 h3];rfl
theorem Qr:∀(n:Nat) {B:Aa} (a b:D) (v:Value) (c:Bool),Er B a v→Er B b v→K6 n a b=some c→c=true
 | 0,_,_,_,_,_,_,_,h=>nomatch h
 | n+1,B,a,b,v,c,r1,r2,h=>by
  induction a using D.casesOn with
  | none=>exact(Bf h).2.symm
  | bool x=>
   refine Ch h λy h1 e=>?_
   rw[D.boo_inv h1]at r2
   exact e▸beq_iff_eq.mpr (Value.bool.inj (Eq.trans (Eq.symm r1) r2))
  | int x=>
   refine Ch h λy h1 e=>?_
   rw[D.num_inv h1]at r2
   refine xe r1 λt r1=>?_
   refine xe r2 λu r2=>?_
   exact e▸beq_iff_eq.mpr (Value.int.inj (r1.symm.trans r2)).1
  | str x=>
   refine Ch h λy h1 e=>?_
   rw[D.txt_inv h1]at r2
   refine xe r1 λt r1=>?_
   refine xe r2 λu r2=>?_
   exact e▸beq_iff_eq.mpr (Value.str.inj (r1.symm.trans r2)).1
  | tup l=>exact Am h
  | lst l=>
   refine Ay h λm h1 h2=>?_
   rw[D.lis_inv h1]at r2
   refine Au r1 λx i vs z e1 q1=>?_
   clear r1
   subst z
   refine Au r2 λy j ws e e2 q2=>?_
   clear r2
   cases e
   rw[e1]at e2;cases e2
   unfold F8 at h2
   rw[if_pos (q1.length.symm.trans q2.length)]at h2
   exact M1 (Qr n) q1 q2 h2
theorem R6:∀{l m:List D} {c:Bool},Zk f l m=some c→l.length=m.length→∃e:Nat→Bool,(∀j a b,l[j]? = some a→m[j]? = some b→f a b=some (e j))∧(List.range l.length).all e=c
 | [],m,c,h,_=>⟨λ_=>true,λj a b h'=>(by exact Am h'),(Bf h).2⟩
 | a::l,[],c,h,_=>nomatch h
 | a::l,b::m,c,h,hl=>by
  refine Ay h λx h1 h2=>?_
  refine Ch h2 λy h3 e0=>?_
  refine Aj (R6 h3 (Nat.succ.inj hl)) λe e1 e2=>?_
  refine⟨λj=>Nat.casesOn j x e,λj a' b' q1 q2=>?_,?_⟩
  ·induction j using Nat.casesOn with
   | zero=>refine Gc q1 ?_;cases q2;exact h1
   | succ j=>exact e1 j a' b' q1 q2
  ·rw[←e0,←e2,length_cons,range_succ_eq_map,all_cons,all_map]
   rfl
theorem Wc{n:Nat}(ih:∀{a b:D} {c:Bool} {B:Aa} {ca cb:Value} {A:Around} {s:Shared},K6 n a b=some c→Er B a ca→Er B b cb→B.ok s.heap→A.units+n < cLine→EqAt A s ca cb c)
  {l m:List D} {c:Bool} {B:Aa} {x y:Addr} {vs ws:Array Value} {i j:Nat} {A:Around} {s:Shared} (h:F8 (K6 n) l m=some c) (e1:s.heap.get? x=some (Bp vs i)) (e2:s.heap.get? y=some (Bp ws j))
  (r1:Reps B l vs.toList) (r2:Reps B m ws.toList) (hB:B.ok s.heap) (hu:A.units+(n+1) < cLine):RcAt A s (.ref x) (.ref y) c∧RcNeAt A s (.ref x) (.ref y) (!c):=by
 have s1:vs.size=l.length:=by simpa using r1.length
 have s2:ws.size=m.length:=by simpa using r2.length
 unfold F8 at h
 split at h
 ·rename_i hl
  refine Aj (R6 h hl) λe h1 h2=>?_
  have he:∀j (h1:j < vs.size) (h2:j < ws.size),EqAt A.in1 s vs[j] ws[j] (e j):=by
   intro p p1 p2
   have l1:p < l.length:=s1▸p1
   have l2:p < m.length:=s2▸p2
   refine Aj (r1.get (List.getElem?_eq_getElem l1)) λv v1 v2=>?_
   refine Aj (r2.get (List.getElem?_eq_getElem l2)) λu u1 u2=>?_
   have hv:v=vs[p]:=by
    rw[getElem?_toList,Array.getElem?_eq_getElem p1]at v1
    exact(Option.some.inj v1).symm
   have hw:u=ws[p]:=by
    rw[getElem?_toList,Array.getElem?_eq_getElem p2]at u1
    exact(Option.some.inj u1).symm
   subst hv;subst hw
   exact ih (h1 p _ _ (List.getElem?_eq_getElem l1) (List.getElem?_eq_getElem l2)) v2 u2 hB (by simp only[Around.in1_units];lia)
  have hsz:vs.size=ws.size:=by lia
  have a1:=RcAt.lists (An e1) (An e2) hsz (by lia) he
  have a2:=RcNeAt.lists (An e1) (An e2) hsz (by lia) he
  rw[s1,h2]at a1 a2
  exact⟨a1,a2⟩
 ·rename_i hl
  refine Gc h ?_
  have hsz:(vs.size != ws.size)=true:=by simp;lia
  exact⟨RcAt.lists_lengths (An e1) (An e2) hsz (by lia),RcNeAt.lists_lengths (An e1) (An e2) hsz (by lia)⟩
theorem Ug:∀(n:Nat) {a b:D} {c:Bool} {B:Aa} {ca cb:Value} {A:Around} {s:Shared},K6 n a b=some c→Er B a ca→Er B b cb→B.ok s.heap→A.units+n < cLine→EqAt A s ca cb c∧RcAt A s ca cb c∧RcNeAt A s ca cb (!c)
 | 0,_,_,_,_,_,_,_,_,h,_,_,_,_=>nomatch h
 | n+1,a,b,c,B,ca,cb,A,s,h,ra,rb,hB,hu=>by
  induction a using D.casesOn with
  | none=>
   have g:=Bf h
   rw[D.non_inv g.1]at rb
   refine eqr ra ?_;cases rb
   exact g.2▸⟨EqAt.same _,RcAt.none_none,RcNeAt.none_none⟩
  | bool x=>
   refine Ch h λy h1 e=>?_
   rw[D.boo_inv h1]at rb
   refine eqr ra ?_;cases rb
   exact e▸⟨EqAt.bool_bool _ _,RcAt.bool_bool _ _,RcNeAt.bool_bool _ _⟩
  | int x=>
   refine Ch h λy h1 e=>?_
   rw[D.num_inv h1]at rb
   obtain⟨t,rfl⟩:=ra;obtain⟨u,rfl⟩:=rb
   exact e▸⟨EqAt.int_int _ _ _ _,RcAt.int_int _ _ _ _,RcNeAt.int_int _ _ _ _⟩
  | str x=>
   refine Ch h λy h1 e=>?_
   rw[D.txt_inv h1]at rb
   obtain⟨t,rfl⟩:=ra;obtain⟨u,rfl⟩:=rb
   exact e▸⟨EqAt.str_str _ _ _ _,RcAt.str_str _ _ _ _,RcNeAt.str_str _ _ _ _⟩
  | tup l=>exact Am h
  | lst l=>
   refine Ay h λm h1 h2=>?_
   rw[D.lis_inv h1]at h rb
   have ra':=ra
   have rb':=rb
   refine Au ra λx i vs z e1 r1=>?_
   clear ra
   subst z
   refine Au rb λy j ws z e2 r2=>?_
   clear rb
   subst z
   have key:=Wc (fun{a b c B ca cb A s} h1 h2 h3 h4 h5=>(Ug n h1 h2 h3 h4 h5).1) h2 (hB _ _ e1) (hB _ _ e2) r1 r2 hB hu
   refine⟨?_,key⟩
   by_cases hxy:x=y
   ·subst hxy
    exact Qr (n+1) _ _ _ _ ra' rb' h▸EqAt.same _
   ·exact EqAt.of_refs hxy key.1
theorem Ri:∀{l:List D} {ns:List Int} {B:Aa} {vs:List Value},Dj l=some ns→Reps B l vs→IntsAre vs ns
 | [],ns,B,vs,h,r=>by
  simp only[Dj,Option.some.injEq]at h
  simp only[Reps]at r
  subst h;subst r;exact .nil
 | .int i::l,ns,B,vs,h,r=>by
  simp only[Dj]at h
  refine Ch h λms h1 z=>?_
  clear h
  subst z
  simp only[Reps,Er]at r
  obtain⟨v,ws,rfl,⟨t,rfl⟩,r⟩:=r
  exact .cons _ _ (Ri h1 r)
 | .none::_,_,_,_,h,_ | .bool _::_,_,_,_,h,_ | .str _::_,_,_,_,h,_ | .tup _::_,_,_,_,h,_ | .lst _::_,_,_,_,h,_=>by simp[Dj]at h
theorem Km(H:∀{A:Around} {E Q:Value→Shared→Prop} {s:Shared} {x y:Int} {t u:Tok},Q (.bool (f x y)) s→wpAny Z.M A (compareOp op (.int x t) (.int y u)) Q E s)
  (h:Uk f a b=some c):Rf Z k op a b cel c:=by
 refine Ay h λx h1 h2=>?_
 refine Ch h2 λy h3 e=>?_
 rw[D2 h1,D2 h3]
 intro A P B φ s ca cb Q E hA r w w1 q
 refine xe w λt z=>?_
 clear w
 subst z
 refine xe w1 λu z=>?_
 clear w1
 subst z
 exact H (e▸q s.toks)
theorem Ajx(h:cmp .Lt a b cel=some c):Rf Z k .Lt a b cel c:=by
 rcases el h with⟨_,h⟩ | ⟨x,h1,h⟩
 ·refine Ay h λx h1 h2=>?_
  refine Ch h2 λy h3 e=>?_
  rw[Cn h1,Cn h3]
  intro A P B φ s ca cb Q E hA r w w1 q
  refine xe w λt z=>?_
  clear w
  subst z
  refine xe w1 λu z=>?_
  clear w1
  subst z
  exact PyProof.Rows.lt_str (e▸q s.toks)
 ·exact Km (f:=λx y=>decide (x < y)) (λh=>PyProof.Rows.lt_int h) (show(M2 a).bind _=_ from h1▸h)
theorem Agy(h:Ahf a=some c)(va:VR Z B φ a ca):(ca==Value.none)=c:=by
 rcases el h with⟨_,h⟩ | ⟨x,h1,h⟩
 ·refine Ch h λi h1 e=>?_
  rw[Ie h1]at va
  refine Aj va λ_ _ z=>?_
  clear va
  subst z
  exact e
 ·rw[Fa h1]at va
  induction x using D.casesOn with
  | none=>refine eqr va ?_;exact Option.some.inj h
  | int=>obtain⟨t,rfl⟩:=va;exact Option.some.inj h
  | str=>obtain⟨t,rfl⟩:=va;exact Option.some.inj h
  | _=>exact Am h
theorem Adw{n:Bool→Bool}{c:Bool}(H:∀{A:Around} {E Q:Value→Shared→Prop} {s:Shared},Q (.bool (n true)) s→wpAny Z.M A (compareOp op (.type T) (.type T)) Q E s)
  (H':∀{A:Around} {E Q:Value→Shared→Prop} {s:Shared} {v:Value},Q (.bool (n (v == .none))) s→wpAny Z.M A (compareOp op v .none) Q E s) (h:isC T a b=some c):Rf Z k op a b cel (n c):=by
 rcases el h with⟨_,h⟩ | ⟨x,h1,h⟩
 ·have g:=Bf h
  have t:=Bool.and_eq_true_iff.mp g.1
  rw[Q2 t.1,Q2 t.2]
  rintro A P B φ s ca cb Q E hA r rfl rfl q
  exact H (g.2▸q s.toks)
 ·have g:=cd h
  rw[Fa h1,D.non_inv g.1]
  rintro A P B φ s ca cb Q E hA r va rfl q
  exact H' (Agy g.2 va▸q s.toks)
theorem U9{n:Bool→Bool}{c:Bool}(H:∀{A:Around} {E Q:Value→Shared→Prop} {s:Shared} {y:Str} {t:Tok} {d:Addr} {f:Str→Option Value},(d==sysModules)=false→s.heap.MapOf (PySem.strKind Z.prog Z.w) d f→(∀tk,Q (.bool (n (f y).isSome)) {s with toks:=tk})→wpAny Z.M A (compareOp op (.str y t) (.ref d)) Q E s)
  (h:Yy a b=some c):Rf Z k op a b cel (n c):=by
 refine Ay h λy h1 h2=>?_
 refine Ch h2 λkvs h3 e=>?_
 rw[Cn h1,Q6 h3]
 intro A P B φ s ca cb Q E hA x w1 w2 q
 refine xe w1 λt z=>?_
 clear w1
 subst z
 refine Id w2 λd z f o hb hsm hm hf=>?_
 clear w2
 subst z
 have hk:(f y).isSome=(kvs.lookup y).isSome:=by
  have:=hf y
  cases hl:kvs.lookup y with
  | none=>rw[hl]at this;exact congrArg Option.isSome this
  | some v=>rw[hl]at this;exact this.elim λv e=>congrArg Option.isSome e.1
 exact H hsm (hm _ (x.base.sub _ _ hb)) (hk.trans e▸q)
theorem Akw{a b:AV}{cel:List Ad}{c:Bool}(h:inC a b cel=some c):Rf Z k .In a b cel c:=by
 rcases el h with⟨_,h⟩ | ⟨i,h1,h⟩
 ·exact U9 (n:=id) (fun{A E Q s y t d f} h1 h2 h3=>wpAny_in_of (knd:=PySem.strKind Z.prog Z.w) (k:=y) (by simp[PySem.strKind,Value.isStrOf]) h1 h2 (h3 _)) h
 ·rw[D2 h1]
  rcases el h with⟨_,h⟩ | ⟨l,h2,h⟩
  ·refine Ay h λl hl h3=>?_
   refine Ch h3 λns h4 e=>?_
   intro A P B φ s ca cb Q E hA x w1 vb q
   refine xe w1 λt z1=>?_
   clear w1
   subst z1
   refine Au (Ct x hl vb) λd vs n z e1 r1=>?_
   subst z
   exact PyProof.Rows.in_list_ints (vs:=vs.toList) (by simpa using An e1) (Ri h4 r1) (e▸q s.toks)
  ·rw[Ab9 h2]
   intro A P B φ s ca cb Q E hA x w1 w2 q
   refine xe w1 λt z1=>?_
   clear w1
   subst z1
   refine Ap9 w2 λd z1 o hb hs=>?_
   clear w2
   subst z1
   exact hs A E s Q _ _ (x.base.sub _ _ hb) (Option.some.inj h▸q)
theorem Zt(h:eqC a b cel=some c)(hA:Dk k A)(x:B7 Z P B φ cel s)(va:VR Z B φ a ca)(vb:VR Z B φ b cb):RcAt A s ca cb c∧RcNeAt A s ca cb (!c):=by
 have hu:A.units+20 < cLine:=by have:=hA.un;simp only[cLine];lia
 have k:eqL a b cel=some c→RcAt A s ca cb c∧RcNeAt A s ca cb (!c):=λh=>by
  refine Ay h λl h1 h4=>?_
  refine Ay h4 λm h2 h3=>?_
  refine Au (Ct x h1 va) λd vs n z e1 r1=>?_
  subst z
  refine Au (Ct x h2 vb) λd' vs' n' z e2 r2=>?_
  subst z
  exact Wc (n:=4) (fun{a b c B ca cb A s} h1 h2 h3 h4 h5=>(Ug 4 h1 h2 h3 h4 h5).1) (A:=A) h3 e1 e2 r1 r2 x.base.sub (by lia)
 rcases el h with⟨_,h⟩ | ⟨i,h1,h⟩
 ·exact k h
 ·rcases el h with⟨_,h⟩ | ⟨j,h2,h⟩
  ·exact k h
  ·rw[Fa h1]at va
   rw[Fa h2]at vb
   exact(Ug 5 (A:=A) h va vb x.base.sub (by lia)).2
theorem Abv{c:Bool}(h:cmp op a b cel=some c):Rf Z k op a b cel c:=by
 induction op with
 | Eq=>exact λA P B φ s ca cb Q E hA x va vb q=>(Zt h hA x va vb).1 _ _ _ _ (q s.toks)
 | NotEq=>
  refine Ch h λc' h e=>?_
  exact λA P B φ s ca cb Q E hA x va vb q=>(Zt h hA x va vb).2 _ _ _ _ (e▸q s.toks)
 | Lt=>exact Ajx h
 | LtE=>exact Km (λh=>PyProof.Rows.le_int h) h
 | Gt=>exact Km (λh=>PyProof.Rows.gt_int h) h
 | GtE=>exact Km (λh=>PyProof.Rows.ge_int h) h
 | Is=>exact Adw (n:=id) (wpAny_is_self (by rfl)) is_none h
 | IsNot=>
  refine Ch h λc' h1 e=>?_
  exact e▸Adw (n:=not) (wpAny_isNot_self (by rfl)) isNot_none h1
 | In=>exact Akw h
 | NotIn=>
  refine Ch h λc' h1 e=>?_
  exact e▸U9 (n:=not) (fun{A E Q s y t d f} h1 h2 h3=>wpAny_notIn_of (knd:=PySem.strKind Z.prog Z.w) (k:=y) (by simp[PySem.strKind,Value.isStrOf]) h1 h2 (h3 _)) h1
end
end
noncomputable section
open PySem PySem.W PySem.Calls PyProof.Rows PySem.Spec
section
variable {Z:Bz} {k:Nat} {F:Fi} {σ σ₁ σ₂ σ₃:St}
theorem J2(slice:Expr)(o i:Value):∃ops,subscripted slice false o i=operate ops (getItem o i):=by
 induction slice using Expr.casesOn with
 | Slice a b c=>rcases c<;>exact⟨_,rfl⟩
 | _=>exact⟨_,rfl⟩
theorem Hl{E:Value→Shared→Prop}{value slice:Expr}{o i:Value}{T id:String}{Q:Value→Shared→Prop}(hT:s.TypeIs o T)
  (hl:typeLookup (.type T) "__getitem__" = pure (some (.builtin id))) (hg:wpAny (model prog w) A (getItem o i) Q E s):wpAny (model prog w) A (subscriptTail value slice o i) Q E s:=by
 refine xe (J2 slice o i) λops h=>?_
 exact tail_any hT hl hg h
theorem Ly(h:Ef i n=some p):0≤i∧i < n∧i < 16000000∧p=i.toNat:=by
 delta Ef at h
 split at h
 ·rename_i hc;refine spr h ?_;exact⟨hc.1,hc.2.1,hc.2.2,rfl⟩
 ·exact Am h
theorem Qu{xs:List D}{vs:Array Value}{i:Int}(r:Reps B xs vs.toList)(h:L7 xs i=some d):
  ∃v,0≤i∧i < 16000000∧i < xs.length∧vs[i.toNat]? = some v∧Er B d v:=by
 refine Ay h λp h1 h3=>?_
 clear h
 refine Uw (Ly h1) λa1 a2 a3 z=>?_
 subst z
 refine Aj (r.get h3) λv v1 v2=>?_
 exact⟨v,a1,a3,a2,getElem?_toList.symm.trans v1,v2⟩
def ItV(Z:Bz)(k:Nat)(F:Fi)(value slice:Expr)(a i:AV)(σ:St)(d:D):Prop:=OpV Z k F (λo j=>subscriptTail value slice o j) a i σ (.d d) σ
section
variable {value slice:Expr} {a:AV} {d:D} {i:Int}
theorem Vt{K:Type}[DecidableEq K]{knd:KeyKind Z.prog Z.w K}{P B:Aa}{φ:List Addr}{s:Shared}{kvs:List (K×D)}{ad:Addr}{y:K}{cv:Value}{A:Around}{Q E:Value→Shared→Prop}(x:Bm Z P B φ F σ s)(m:Pm knd B kvs ad)(hk:knd.is y cv=true)(h:kvs.lookup y=some d)
  (q:∀B' φ' s' cv,Bm Z P B' φ' F σ s'→Bj P B B' φ φ'→VR Z B' φ' (.d d) cv→Q cv s'):wpAny Z.M A (subscriptTail value slice (.ref ad) cv) Q E s:=by
 refine Jc m λf o hb hsm hm hf=>?_
 clear m
 have hfy:=hf y
 rw[h]at hfy
 refine Aj hfy λcv f1 f2=>?_
 have hM:=hm _ (x.toH.base.sub _ _ hb)
 exact Hl hM.typeIs slot_dict_getitem.lookup (wpAny_getItem_of (knd:=knd) (k:=y) hk hM f1 (q B φ _ _ (x.toks _) (.refl B φ) f2))
theorem Al2(h:Aii y i=some d):ItV Z k F value slice (.d (.str y)) (.d (.int i)) σ d:=by
 refine Ay h λp h1 h2=>?_
 clear h
 refine Ch h2 λc h3 z=>?_
 clear h2
 subst z
 refine Uw (Ly h1) λa1 a2 a3 z=>?_
 subst z
 intro A P B φ s ca ci Q E hA x w w1 q
 refine xe w λu z1=>?_
 clear w
 subst z1
 refine xe w1 λt z1=>?_
 clear w1
 subst z1
 refine Hl (typeIs_str _ _ _) slot_str_getitem.lookup (PySem.P.getItem_str (c:=c) ?_ ?_ (q B φ _ _ (x.toks _) (.refl B φ) ⟨_,rfl⟩))
 ·simp;lia
 ·rw[seqIndex_of a1 (by show i < (y.cps.size:Int);exact a2)]
  simpa using h3
theorem Akf{l:List D}(h:L7 l i=some d):ItV Z k F value slice (.d (.tup l)) (.d (.int i)) σ d:=by
 intro A P B φ s ca ci Q E hA x w w1 q
 refine Au w λad n vs z hb hr=>?_
 clear w
 subst z
 refine xe w1 λt z=>?_
 clear w1
 subst z
 refine O3 (Qu hr h) λcv a1 a2 a3 a4 a5=>?_
 have ht:IsTup s.heap ad vs:=⟨_,x.toH.base.sub _ _ hb,rfl,_,rfl⟩
 have hsz:vs.size=l.length:=by simpa using hr.length
 refine Hl ht.typeIs slot_tuple_getitem.lookup (PyProof.Rows.getItem_tuple ht (by lia) (by lia) (j:=i.toNat) ?_ a4 (q B φ _ _ (x.toks s.toks) (.refl B φ) a5))
 exact seqIndex_of a1 (by lia)
theorem Amt{l:List D}(hl:Aw σ.cel a=some l)(h:L7 l i=some d):ItV Z k F value slice a (.d (.int i)) σ d:=by
 intro A P B φ s ca ci Q E hA x va w q
 refine xe w λt z1=>?_
 clear w
 subst z1
 refine Au (Ct x.toH hl va) λad vs n z e1 r1=>?_
 subst z
 refine O3 (Qu r1 h) λcv a1 a2 a3 a4 a5=>?_
 exact Hl (An e1).typeIs slot_list_getitem.lookup (wpAny_getItem_list (An e1) a1 (by lia) a4 (q B φ _ _ (x.toks s.toks) (.refl B φ) a5))
theorem Ahp{a i v:AV}{value slice:Expr}(h:item a i σ.cel=some v):OpV Z k F (λo j=>subscriptTail value slice o j) a i σ v σ:=by
 refine Ch h λd h0 e=>?_
 refine eqk e ?_
 rcases el h0 with⟨_,h⟩ | ⟨j,hi,h⟩
 ·refine Ay h λy h1 h2=>?_
  refine Ay h2 λkvs h3 h4=>?_
  rw[Cn h1,Q6 h3]
  intro A P B φ s ca ci Q E hA x w w1 q
  refine Aj w λad z m=>?_
  clear w
  subst z
  refine xe w1 λt z=>?_
  clear w1
  subst z
  exact Vt x m (by simp[PySem.strKind,Value.isStrOf]) h4 q
 ·rw[D2 hi]
  rcases el h with⟨_,h⟩ | ⟨kvs,h1,h⟩
  ·rcases el h with⟨_,h⟩ | ⟨y,h1,h⟩
   ·rcases el h with⟨_,h⟩ | ⟨l,h1,h⟩
    ·refine Ay h λl h1 h2=>?_
     exact Amt h1 h2
    ·refine Ay h1 λx h2 h3=>?_
     rw[Fa h2,D.tps_inv h3]
     exact Akf h
   ·rw[Cn h1]
    exact Al2 h
  ·rw[Qa h1]
   intro A P B φ s ca ci Q E hA x w w1 q
   refine Aj w λad z m=>?_
   clear w
   subst z
   refine xe w1 λt z=>?_
   clear w1
   subst z
   exact Vt x m (by simp[PySem.intKind,Value.isInt]) h q
end
theorem Reps.pick(r:Reps B xs vs):∀is:List Nat,Reps B (is.filterMap (xs[·]?)) (is.filterMap (vs[·]?))
 | []=>Reps.nil
 | i::is=>by
  cases h:xs[i]? with
  | none=>
   have:vs[i]? = none:=by
    rw[List.getElem?_eq_none_iff]at h⊢
    rw[r.length];exact h
   simp only[filterMap_cons,h,this]
   exact r.pick is
  | some d=>
   refine Aj (r.get h) λv h1 h2=>?_
   simp only[filterMap_cons,h,h1]
   exact Reps.cons h2 (r.pick is)
def PV(Z:Bz)(k:Nat)(F:Fi)(e:Option Expr)(σ:St)(i:Option Int)(σ':St):Prop:=J Z k F (evalPart e F.env) σ (λB φ cv=>IsPart cv i) σ'
theorem Ahx:PV Z k F none σ none σ:=λA P B φ s Q E hA x q=>by
 rw[evalPart_none]
 exact wpAny_pure (q B φ s _ x (.refl B φ) .none)
theorem Agp(h:EV Z k F e σ (.d (.int i)) σ₁):PV Z k F (some e) σ (some i) σ₁:=λA P B φ s Q E hA x q=>by
 rw[evalPart_some]
 refine h A P B φ s Q E hA x λB' φ' s' cv x' m e=>?_
 refine xe e λt z=>?_
 clear e
 subst z
 exact q B' φ' s' _ x' m (.int i t)
theorem Iu(h₀:Heap):KeptH (λh=>Bo h₀ h):=λh ob x=>x.trans (Bo.push h ob)
theorem E6(h:ItemOn (model prog w) A E o i Q s):wpAny (model prog w) A (subscriptTail value slice o i) Q E s:=by
 refine Cc h λT id hl hT hg=>?_
 clear h
 exact Hl hT hl hg
theorem Amw{P B:Aa}{φ:List Addr}{s:Shared}{v w:AV}{i j:Option Int}{a:Expr}{lo hi:Option Expr}{p:Pos}{ca cl ch:Value}{A:Around}{Q E:Value→Shared→Prop}(hc:cut v i j σ=some (w,σ₁))(x₃:Bm Z P B φ F σ s)(va:VR Z B φ v ca)(pl:IsPart cl i)(ph:IsPart ch j)
  (q:∀B' φ' s' cv,Bm Z P B' φ' F σ₁ s'→Bj P B B' φ φ'→VR Z B' φ' w cv→Q cv s'):
  wpAny Z.M A (subscriptTail a (.Slice lo hi none p) ca (.ref s.heap.objs.size)) Q E {s with heap:=s.heap.push {cls:=.type "slice",data:=.fields #[cl,ch,.none]}}:=by
 rcases el hc with⟨_,h⟩ | ⟨y,h1,h⟩
 ·refine Ch h λzs h e=>?_
  refine Ay h λxs hxs h=>?_
  have g:=Bf h
  cases e
  refine Au (Ct x₃.toH hxs va) λl vs n z1 e1 r1=>?_
  subst z1
  have hsz:vs.size=xs.length:=by simpa using r1.length
  have hL:=(An e1).push {cls:=.type "slice",data:=.fields #[cl,ch,.none]}
  refine Hl (s:={s with heap:=s.heap.push _}) (Heap.IsList.typeIs (s:={s with heap:=s.heap.push _}) hL) slot_list_getitem.lookup (wpAny_getItem_list_slice (s:={s with heap:=s.heap.push _}) hL (Heap.IsSliceOf.new ..) pl ph .none (by decide) ?_ (by rw[hsz];exact C7 g.1))
  have xk:=x₃.keep (tk:=s.toks) (Bo.push s.heap {cls:=.type "slice",data:=.fields #[cl,ch,.none]})
  have hr:Reps B (pick xs i j) (slicePick vs i j none).toList:=by
   delta pick slicePick
   rw[←hsz]
   have:=r1.pick (sliceRange (sliceBounds i j none vs.size).1 (sliceBounds i j none vs.size).2.1 (sliceBounds i j none vs.size).2.2)
   simpa using this
  have y:=Io xk (n:=0) (g.2▸hr) s.toks
  exact q _ _ _ _ y.1 y.2.1 y.2.2
 ·refine Ch h λz h e=>?_
  have g:=Bf h
  cases e
  rw[Cn h1]at va
  refine xe va λt z1=>?_
  clear va
  subst z1
  have hsz:=C7 g.1
  have fin:∀h' t' tk,Bo s.heap h'→Q (.str (Txt.slice y i j) t') {s with heap:=h',toks:=tk}:=λh' t' tk kp=>q B φ _ _ (x₃.keep kp) (.refl B φ) ⟨_,congrArg (λw=>Value.str w t') g.2⟩
  cases pl<;>cases ph
  ·exact E6 (SBH.sliceItem_nn (Iu s.heap) (Bo.refl _) (λh' t' tk kp=>fin h' t' tk kp) hsz)
  ·exact E6 (SBH.sliceItem_ns (Iu s.heap) (Bo.refl _) (λh' t' tk kp=>fin h' t' tk kp) hsz)
  ·exact E6 (SBH.sliceItem_sn (Iu s.heap) (Bo.refl _) (λh' t' tk kp=>fin h' t' tk kp) hsz)
  ·exact E6 (SBH.sliceItem_ss (Iu s.heap) (Bo.refl _) (λh' t' tk kp=>fin h' t' tk kp) hsz)
theorem Abj{a:Expr}{lo hi:Option Expr}{p p':Pos}{v w:AV}{i j:Option Int}(ha:EV Z k F a σ v σ₁)(hl:PV Z k F lo σ₁ i σ₂)(hh:PV Z k F hi σ₂ j σ₃){σ₄:St}(hc:cut v i j σ₃=some (w,σ₄)):
  EV Z k F (.Subscript a (.Slice lo hi none p) p') σ w σ₄:=by
 intro A P B φ s Q E hA x q
 refine Subscript_ (ha A P B φ s _ E hA x λB₁ φ₁ s₁ ca x₁ m₁ va=>wpAny_Slice (hl A P B₁ φ₁ s₁ _ E hA x₁ λB₂ φ₂ s₂ cl x₂ m₂ pl=>hh A P B₂ φ₂ s₂ _ E hA x₂ λB₃ φ₃ s₃ ch x₃ m₃ ph=>?_))
 rw[evalPart_none]
 exact wpAny_pure (Amw hc x₃ ((va.mono m₂).mono m₃) pl ph λB' φ' s' cv x' m vw=>q B' φ' s' cv x' (((m₁.trans m₂).trans m₃).trans m) vw)
end
section
variable {Z:Bz} {k:Nat} {F:Fi} {σ σ₁ σ₂ σ₃:St}
set_option tactic.hygienic true in
theorem Pn(x:Bm Z P B φ F ⟨loc,cel⟩ s)(h:toD cel v=some (d,cel'))(hv:VR Z B φ v cv):
  ∃B',Bm Z P B' φ F ⟨loc,cel'⟩ s∧Bj P B B' φ φ∧Er B' d cv:=by
 delta toD at h
 split at h
 ·refine Bi h ?_;exact⟨B,x,.refl B φ,hv⟩
 ·rename_i i
  split at h
  ·rename_i c hc
   refine Bi h ?_
   refine Aj hv λa e z=>?_
   clear hv
   subst z
   induction c with
   | m xs=>
    refine I3 (x.freeze hc) λb vs n q1 q2 q3 q4 q5 q6=>?_
    rw[e]at q1;cases q1
    exact⟨_,q6,q2,by exact⟨a,n,vs,rfl,Azk _ _ _,q5.mono q2.base⟩⟩
   | f xs=>
    refine Au (x.toH.cells.fz i xs hc) λb vs n q1 q2 q3=>?_
    rw[e]at q1;obtain rfl:=Option.some.inj q1
    have:cel.set i (.f xs)=cel:=by
     obtain⟨h1,h2⟩:=List.getElem?_eq_some_iff.mp hc
     rw[←h2];simp
    refine⟨B,?_,.refl B φ,by exact⟨a,n,vs,rfl,q2,q3⟩⟩
    show Bm Z P B φ F ⟨loc,cel.set i (.f xs)⟩ s
    rw[this];exact x
  ·exact Am h
 ·exact Am h
set_option tactic.hygienic true in
theorem J9:∀{vs:List AV} {B:Aa} {cel cel':List Ad} {ds:List D} {cvs:List Value},Bm Z P B φ F ⟨loc,cel⟩ s→toDs cel vs=some (ds,cel')→H2 Z B φ vs cvs→
  ∃B',Bm Z P B' φ F ⟨loc,cel'⟩ s∧Bj P B B' φ φ∧Reps B' ds cvs
 | [],B,cel,cel',ds,cvs,x,h,hv=>by refine Bi h ?_;cases hv;exact⟨B,x,.refl B φ,Reps.nil⟩
 | v::vs,B,cel,cel',ds,cvs,x,h,hv=>by
  cases hv with
  | cons h1 h2=>
   dsimp only[toDs]at h
   split at h
   ·rename_i d cel₁ hd
    refine Ch h λr e1 e2=>?_
    clear h
    refine Cp e2 ?_
    refine D7 (Pn x hd h1) λB₁ x₁ m₁ r₁=>?_
    refine D7 (J9 x₁ e1 (h2.mono m₁)) λB₂ x₂ m₂ r₂=>?_
    exact⟨B₂,x₂,m₁.trans m₂,Reps.cons (r₁.mono m₂.base) r₂⟩
   ·exact Am h
theorem H2.length(h:H2 Z B φ vs cvs):cvs.length=vs.length:=by
 induction h with
 | nil=>rfl
 | cons _ _ ih=>simp[ih]
theorem Afj(h:EVs Z k F es σ vs σ₁)(hd:toDs σ₁.cel vs=some (ds,cel'))(hf:fits ds.length=true):
  EV Z k F (.List es p) σ (newCell ⟨σ₁.loc,cel'⟩ ds).1 (newCell ⟨σ₁.loc,cel'⟩ ds).2:=by
 intro A P B φ s Q E hA x q
 refine wpAny_List (h p A P B φ s _ E hA x λB₁ φ₁ s₁ cvs x₁ m₁ e₁=>?_)
 refine D7 (J9 (loc:=σ₁.loc) (cel:=σ₁.cel) x₁ hd e₁) λB₂ x₂ m₂ r₂=>?_
 refine⟨by rw[r₂.length];exact C7 hf,?_⟩
 refine Pb (Io x₂ (vs:=cvs.toArray) (n:=0) (xs:=ds) (by trivial) s₁.toks) λy1 y2 y3=>?_
 exact q _ _ _ _ y1 ((m₁.trans m₂).trans y2) y3
theorem Ag3(x:Bm Z P B φ F σ s)(o:Obj)(ho:(match o with | ⟨_,_,.freed,_⟩=>false | _=>true)=true)(tk:Nat):
  Bm Z P (B.put s.heap.objs.size o) φ F σ {s with heap:=s.heap.push o,toks:=tk}∧Bj P B (B.put s.heap.objs.size o) φ φ:=by
 have hn:s.heap.get? s.heap.objs.size=none:=B0 (le_refl _)
 have hs:(s.heap.push o).get? s.heap.objs.size=some o:=by
  unfold Heap.get? Heap.push
  simp only[getElem?_push_size]
  split
  ·rename_i e;obtain rfl:=Option.some.inj e;simp at ho
  ·rfl
 have g:=Eo.put x.toH.base.sub (Bo.push s.heap o) hn hs
 exact⟨x.grow g,g.mono x.toH.base.prot φ⟩
theorem Aci(h:EVs Z k F es σ vs σ₁)(hd:toDs σ₁.cel vs=some (ds,cel'))(hf:fits ds.length=true):
  EV Z k F (.Tuple es n p) σ (.d (.tup ds)) ⟨σ₁.loc,cel'⟩:=by
 intro A P B φ s Q E hA x q
 refine wpAny_Tuple (h p A P B φ s _ E hA x λB₁ φ₁ s₁ cvs x₁ m₁ e₁=>?_)
 refine D7 (J9 (loc:=σ₁.loc) (cel:=σ₁.cel) x₁ hd e₁) λB₂ x₂ m₂ r₂=>?_
 refine⟨by rw[r₂.length];exact C7 hf,?_⟩
 refine xa (Ag3 x₂ {cls:=.type "tuple",data:=.seq cvs.toArray} rfl s₁.toks) λy1 y2=>?_
 refine q _ _ _ _ y1 ((m₁.trans m₂).trans y2) ?_
 exact⟨_,0,cvs.toArray,rfl,Azk _ _ _,by simpa using r₂.mono y2.base⟩
end
open Classical in
noncomputable def Fi.keep(F:Fi)(h:Heap)(P:Aa):Aa:=λb=>if b=F.L∨(∃y,F.env.kindOf y=some .cell∧¬F.bor y∧F.env.cells.lookup y=some b)then h.get? b else P b
section
variable {Z:Bz} {k:Nat} {F:Fi} {σ σ₁ σ₂ σ₃:St}
theorem Go(e:b=F.L∨(∃y,F.env.kindOf y=some .cell∧¬F.bor y∧F.env.cells.lookup y=some b)):F.keep h P b=h.get? b:=if_pos e
theorem Bt(e:¬(b=F.L∨(∃y,F.env.kindOf y=some .cell∧¬F.bor y∧F.env.cells.lookup y=some b))):F.keep h P b=P b:=if_neg e
theorem Bm.own(x:Bm Z P B φ F σ s)(e:b=F.L∨(∃y,F.env.kindOf y=some .cell∧¬F.bor y∧F.env.cells.lookup y=some b)):
  B b=none∧P b=none∧∃o,s.heap.get? b=some o∧∀vs n,o≠Bp vs n:=by
 rcases e with rfl | ⟨y,e1,e0,e2⟩
 ·refine Aj x.frame.ns λm hn _=>?_
  refine Au hn λo es ep r1 r2 _=>?_
  clear hn
  exact⟨x.frame.bL,x.frame.pL,o,r1,λvs n e=>by rw[e]at r2;exact nomatch r2⟩
 ·refine Fk (x.frame.cl y b e1 e2) λh v o r1 r2=>?_
  rcases h with⟨_,h1,h2⟩ | ⟨h,_⟩
  ·exact⟨h1,h2,o,r1,λvs n e=>by rw[e]at r2;exact nomatch r2⟩
  ·exact absurd h e0
theorem Bm.lend(x:Bm Z P B φ F σ s):B7 Z (F.keep s.heap P) B φ σ.cel s:=by
 refine⟨⟨x.toH.base.same,x.toH.base.old,x.toH.base.sub,λb o e=>?_⟩,⟨x.toH.cells.len,x.toH.cells.ex,λi xs e=>?_,x.toH.cells.fz,x.toH.cells.nod⟩⟩
 ·by_cases q:b=F.L∨(∃y,F.env.kindOf y=some .cell∧¬F.bor y∧F.env.cells.lookup y=some b)
  ·rw[Go q]at e;exact e
  ·rw[Bt q]at e;exact x.toH.base.prot b o e
 ·refine Ar (x.toH.cells.at_ i xs e) λa vs n r1 r2 r3 r4=>?_
  refine⟨a,vs,n,r1,⟨r2.1,?_⟩,r3,r4⟩
  rw[Bt]
  ·exact r2.2
  ·intro q
   refine Ab3 (x.own q) λ_ _ o h1 h2=>?_
   rw[r3]at h1;obtain rfl:=Option.some.inj h1
   exact h2 _ _ rfl
theorem Bm.back(x:Bm Z P B φ F σ s)(y:B7 Z (F.keep s.heap P) B' φ' cel' s')(m:Bj (F.keep s.heap P) B B' φ φ'):
  Bm Z P B' φ' F ⟨σ.loc,cel'⟩ s'∧Bj P B B' φ φ':=by
 have own:∀{b:Addr} (q:b=F.L∨(∃y,F.env.kindOf y=some .cell∧¬F.bor y∧F.env.cells.lookup y=some b)),B' b=none∧s'.heap.get? b=s.heap.get? b:=by
  intro b q
  refine Ab3 (x.own q) λh1 h2 o h3 h4=>?_
  have hk:F.keep s.heap P b=some o:=by rw[Go q];exact h3
  refine⟨?_,(y.base.prot b o hk).trans h3.symm⟩
  cases e:B' b with
  | none=>rfl
  | some o'=>
   rcases m.new b o' e with r | r
   ·rw[h1]at r;exact Am r
   ·rw[hk]at r;exact nso r
 have pn:∀{b:Addr},F.keep s.heap P b=none→P b=none:=by
  intro b e
  by_cases q:b=F.L∨(∃y,F.env.kindOf y=some .cell∧¬F.bor y∧F.env.cells.lookup y=some b)
  ·exact(x.own q).2.1
  ·rwa [Bt q]at e
 have mm:Bj P B B' φ φ':=⟨m.base,λa o e=>(m.new a o e).imp id pn,m.pre⟩
 have cellSame:∀{z:Str} {c:Addr},F.env.kindOf z=some .cell→F.env.cells.lookup z=some c→s'.heap.get? c=s.heap.get? c:=by
  intro z c e1 e2
  refine Fk (x.frame.cl z c e1 e2) λh v o r1 r2=>?_
  rcases h with⟨h0,_⟩ | ⟨_,oo,h⟩
  ·exact(own (.inr ⟨z,e1,h0,e2⟩)).2
  ·by_cases q:c=F.L∨(∃y,F.env.kindOf y=some .cell∧¬F.bor y∧F.env.cells.lookup y=some c)
   ·exact(own q).2
   ·exact(y.base.prot c oo (by rw[Bt q];exact h)).trans (x.toH.base.prot c oo h).symm
 refine⟨⟨⟨⟨y.base.same,y.base.old,y.base.sub,λb o e=>?_⟩,⟨y.cells.len,y.cells.ex,λi xs e=>?_,y.cells.fz,y.cells.nod⟩⟩,?_⟩,mm⟩
 ·refine y.base.prot b o ?_
  rw[Bt]
  ·exact e
  ·intro q
   rw[(x.own q).2.1]at e;exact Am e
 ·refine Ar (y.cells.at_ i xs e) λa vs n r1 r2 r3 r4=>?_
  exact⟨a,vs,n,r1,⟨r2.1,pn r2.2⟩,r3,r4⟩
 ·refine Aj x.frame.ns λmm' hn hs=>?_
  refine⟨(own (.inl rfl)).1,x.frame.pL,⟨mm',?_,λi z v e1 e2=>?_⟩,λz c e1 e2=>?_,x.frame.ll⟩
  ·refine Au hn λo es ep r1 r2 r3=>?_
   clear hn
   exact⟨o,es,ep,(own (.inl rfl)).2.trans r1,r2,r3⟩
  ·refine Aj (hs i z v e1 e2) λcv sl v'=>?_
   refine⟨cv,?_,v'.mono m⟩
   rcases sl with sl | ⟨s1,c,s2,o,s3,s4⟩ | ⟨s1,s0,c,o,s2,s3,s4⟩
   ·exact .inl sl
   ·exact .inr (.inl ⟨s1,c,s2,o,(cellSame s1 s2).trans s3,s4⟩)
   ·exact .inr (.inr ⟨s1,s0,c,o,s2,m.base _ _ s3,s4⟩)
  ·refine Fk (x.frame.cl z c e1 e2) λh v o r1 r2=>?_
   refine⟨?_,v,o,(cellSame e1 e2).trans r1,r2⟩
   rcases h with⟨h0,h1,h2⟩ | h
   ·exact .inl ⟨h0,(own (.inr ⟨z,e1,h0,e2⟩)).1,h2⟩
   ·exact .inr h
theorem nst{e:Expr}(h:∀x p,e≠.Starred x p):Nat.beq e.ctorIdx 22=false:=by
 refine Bool.eq_false_iff.mpr λhn=>?_
 induction e using Expr.casesOn with
 | Starred=>exact h _ _ rfl
 | _=>exact Ff hn
def C8(es:List Expr):Prop:=∀e∈es,∀x p,e≠.Starred x p
theorem Gz{env:Env}:∀{es:List Expr},C8 es→starEach es env=es.map λe=>(false,eval e env)
 | [],_=>rfl
 | e::es,h=>by
  have ih:=Gz (env:=env) (es:=es) λe he=>h e (mem_cons_of_mem _ he)
  have h0:=h e (mem_cons_self ..)
  rw[map_cons,←ih]
  have h1:=nst h0
  clear h0 h ih
  induction e using Expr.casesOn with
  | Starred=>exact J3 h1
  | _=>rfl
theorem Cw(h:C8 es):backTo pos (starEach es env)=es.map λe=>(false,eval e env):=by
 rw[Gz h]
 simp[backTo,Function.comp_def]
def Yg(Z:Bz)(f:Value):Prop:=∀(A:Around) (E:Value→Shared→Prop) (s:Shared) (env:Env) (pos:Pos) (es:List Expr) (Q:Value→Shared→Prop),C8 es→
 wpAny Z.M A (spliced (backTo pos (starEach es env))) (λvs s₁=>Bo Z.s₀.heap s₁.heap∧wpAny Z.M A (call f vs) Q E s₁) E s→wpAny Z.M A (callWith pos f [] (backTo pos (starEach es env)) []) Q E s
def L8(Z:Bz)(f:Value):Prop:=(∃id,f = .builtin id)∨(∃T,f = .type T)∨(∃a o fd,f = .ref a∧Z.s₀.heap.get? a=some o∧o.data = .func fd)∨Yg Z f
theorem Ei(hp:C8 es)
  (h:wpAny M A (spliced (backTo pos (starEach es env))) (λvs s'=>Q ⟨vs,[]⟩ s') E s):wpAny M A (evalArgs f true (backTo pos (starEach es env)) []) Q E s:=by
 rw[Cw hp]at h⊢
 induction es using List.casesOn with
 | nil=>
  refine wpAny_bind (wpAny_mono h (λvs s' h'=>wpAny_bind (wpAny_pure ?_)) λ_ _ x=>x)
  refine wpAny_holding ?_
  exact wpAny_bind (wpAny_pure (wpAny_bind (wpAny_pure (wpAny_pure h'))))
 | cons e es=>exact Calls.evalArgs_plain h
theorem Ag6(hf:EV Z k F (.Name y p) σ (.g f) σ₁)(hc:L8 Z f)(hp:C8 es)(h:EVs Z k F es σ₁ vs σ₂)(hr:CL Z k f vs σ₂.cel v cel'):
  EV Z k F (.Call (.Name y p) es [] pos) σ v ⟨σ₂.loc,cel'⟩:=by
 intro A P B φ s Q E hA x q
 refine Call_Name rfl (hf A P B φ s _ E hA x λB₁ φ₁ s₁ cf x₁ m₁ e₁=>?_)
 have e₁:cf=f:=e₁
 subst e₁
 have main:∀(B₂:Aa) (φ₂:List Addr) (s₂:Shared) (cvs:List Value),Bm Z P B₂ φ₂ F σ₂ s₂→Bj P B₁ B₂ φ₁ φ₂→H2 Z B₂ φ₂ vs cvs→wpAny Z.M A (call cf cvs) Q E s₂:=by
  intro B₂ φ₂ s₂ cvs x₂ m₂ e₂
  refine hr A (F.keep s₂.heap P) B₂ φ₂ s₂ cvs Q E hA x₂.lend e₂ λB₃ φ₃ s₃ cv x₃ m₃ e₃=>?_
  refine xa (x₂.back x₃ m₃) λy1 y2=>?_
  exact q B₃ φ₃ s₃ cv y1 ((m₁.trans m₂).trans y2) e₃
 have hplain:(backTo pos (starEach es F.env)).any (·.1)=false:=by rw[Cw hp];simp[Function.comp_def]
 rcases hc with⟨id,rfl⟩ | ⟨T,rfl⟩ | ⟨a,o,fd,rfl,ho,hd⟩ | hany
 ·exact Calls.callWith_builtin hplain (Ei hp (h pos A P B₁ φ₁ s₁ _ E hA x₁ λB₂ φ₂ s₂ cvs x₂ m₂ e₂=>main B₂ φ₂ s₂ cvs x₂ m₂ e₂))
 ·refine PyProof.Rows.callWith_type hplain (Ei hp (h pos A P B₁ φ₁ s₁ _ E hA x₁ λB₂ φ₂ s₂ cvs x₂ m₂ e₂=>?_))
  simpa using main B₂ φ₂ s₂ cvs x₂ m₂ e₂
 ·exact Calls.callWith_function (o:=o) (fd:=fd) (Ei hp (h pos A P B₁ φ₁ s₁ _ E hA x₁ λB₂ φ₂ s₂ cvs x₂ m₂ e₂=>⟨⟨x₂.toH.base.g _ _ ho,hd⟩,main B₂ φ₂ s₂ cvs x₂ m₂ e₂⟩))
 ·exact hany A E s₁ F.env pos es Q hp (h pos A P B₁ φ₁ s₁ _ E hA x₁ λB₂ φ₂ s₂ cvs x₂ m₂ e₂=>⟨x₂.toH.base.g,main B₂ φ₂ s₂ cvs x₂ m₂ e₂⟩)
end
structure B9(Z:Bz)(a:Addr)(fn:B6)(fd:FuncData):Prop where
 obj:∃o,Z.s₀.heap.get? a=some o∧o.data = .func fd
 code:Z.s₀.heap.CodeRec fd.code fd.qualname
 body:fd.body = .stmts fn.body
 sc:fd.scope=fn.sc
 glob:fd.globals=mainGlobals
 blt:fd.builtins=builtinsNs
 clo:fd.closure=[]
 fun_:fn.sc.kind = .function
 co:fn.sc.isCoroutine=false
 gen:fn.sc.isGenerator=false
 nod:(fn.sc.names.map (·.1)).Nodup
 dbg:∀x∈fn.sc.names.map (·.1),fn.sc.names.lookup x≠some .globalImplicit→(x==("__debug__" : Str))=false
 bind:∀(args:List AV) (loc:List (Option AV)),Mine.bindArgs fn args=some loc→∀(B:Aa) (φ:List Addr) (vals:List Value) (s:Shared),Bo Z.s₀.heap s.heap→H2 Z B φ args vals→(∀a o,Z.s₀.heap.get? a=some o→B a=some o)→
  ∃binds,BindsTo s fd ⟨vals,[]⟩ binds∧(∀x∈binds,fn.sc.names.lookup x.1=some .local)∧
   ∀(i:Nat) x v,(fn.sc.names.map (·.1))[i]? = some x→loc[i]? = some (some v)→∃cv,binds.reverse.lookup x=some cv∧VR Z B φ v cv
section
variable {Z:Bz} {k:Nat} {F:Fi} {σ σ₁ σ₂ σ₃:St}
noncomputable def Fl.val:Fl→AV
 | .ret v=>v
 | _=>.d .none
theorem Av[BEq α][LawfulBEq α]:∀{l:List (α×β)} {a:α} {b:β},l.lookup a=some b→(a,b)∈l
 | [],_,_,h=>by exact Am h
 | (a',b')::l,a,b,h=>by
  simp only[List.lookup]at h
  split at h
  ·rename_i e;refine Gc h ?_;have:=eq_of_beq e;subst this;exact mem_cons_self ..
  ·exact mem_cons_of_mem _ (Av h)
theorem Dp(h:Mine.bindArgs fn args=some loc):loc.length=(fn.sc.names.map (·.1)).length:=by
 unfold Mine.bindArgs at h
 split at h
 ·refine Gc h ?_;simp
 ·cases h
theorem Amh(D:B9 Z a fn fd)(hcell:∀x∈fn.sc.names,x.2≠.cell)(hb:Mine.bindArgs fn args=some loc)
  (hfl:fl = .next∨∃v,fl = .ret v) (h:∀F:Fi,F.sc=fn.sc→XS Z k F fn.body ⟨loc,cel⟩ fl σ'):CL Z (k+1) (.ref a) args cel fl.val σ'.cel:=by
 intro A P B φ s vals Q E hA x va q
 refine Aj D.obj λo ho hd=>?_
 have kp:=x.base.g
 refine D7 (D.bind args loc hb B φ vals s kp va x.base.old) λbinds b1 b2 b3=>?_
 have hsc:=D.sc
 refine wpAny_call (codeAny_call_def (hA.depth) (kp _ _ ho) hd (Z.lim.keeps kp) (D.code.keeps kp) D.body b1 (by rw[hsc];exact hcell) (by rw[hsc];exact b2) (λh₁ hns hkp=>?_) (by rw[hsc];exact D.co) (by rw[hsc];exact D.gen) (by rw[hsc];exact D.fun_))
 have f1:fd.scope.kind = .function:=by rw[hsc];exact D.fun_
 have f2:(fd.scope.names.map (·.1)).Nodup:=by rw[hsc];exact D.nod
 have f3:∀x∈fd.scope.names.map (·.1),fd.scope.names.lookup x≠some .globalImplicit→(x==("__debug__" : Str))=false:=by rw[hsc];exact D.dbg
 have f4:∀x y c,fd.closure.lookup x=some c→fd.closure.lookup y=some c→x=y:=λx y c e=>by rw[D.clo]at e;exact Am e
 have f5:∀y,fd.scope.names.lookup y=some .cell→∃c,fd.closure.lookup y=some c:=λy e=>by
  rw[hsc]at e
  exact absurd rfl (hcell _ (Av e))
 let F':Fi:=⟨callEnv fd s.heap.objs.size a,f1,D.glob,D.blt,f2,f3,f4,λ_=>False,fd.scope,rfl,λ_=>.inl rfl,λ_ h=>h.elim,f5⟩
 have hn:s.heap.get? s.heap.objs.size=none:=B0 (le_refl _)
 have hkind:∀y,F'.env.kindOf y=fn.sc.names.lookup y:=λy=>by show fd.scope.names.lookup y=_;rw[hsc]
 have xr:Bm Z P B φ F' ⟨loc,cel⟩ {s with heap:=h₁,toks:=s.toks+binds.length}:=by
  refine⟨x.grow (Azw x.base.sub hkp),x.base.sub.none hn,x.base.prot.none hn,⟨_,hns,λi y v e1 e2=>?_⟩,λy c e1 e2=>?_,?_⟩
  ·have e1':(fn.sc.names.map (·.1))[i]? = some y:=by
    have:(fd.scope.names.map (·.1))[i]? = some y:=e1
    rwa [hsc]at this
   refine Aj (b3 i y v e1' e2) λcv c1 c2=>?_
   refine⟨cv,.inl ⟨?_,c1⟩,c2⟩
   rw[hkind]
   exact b2 _ (mem_reverse.mp (Av c1))
  ·exfalso
   rw[hkind]at e1
   exact hcell _ (Av e1) rfl
  ·rw[Dp hb]
   show _=(fd.scope.names.map (·.1)).length
   rw[hsc]
 have:=h F' hsc (A.deeper F'.env) P B φ _ (λf s'=>Q (match f with | .ret v=>v | _=>.none) s') (λe s'=>wpAny Z.M (A.deeper F'.env) (leaving F'.env e) (λ_ s''=>E e s'') (λe' s''=>E e' s'') s') (hA.deeper _) xr λB' φ' s' r y m z=>?_
 ·exact this
 ·rcases hfl with rfl | ⟨v,rfl⟩
  ·have z:r = .next:=z
   subst z
   exact q B' φ' s' _ y.toH m rfl
  ·refine Aj z λcv z1 hv=>?_
   clear z
   subst z1
   exact q B' φ' s' _ y.toH m hv
end
section
variable {Z:Bz} {k:Nat} {F:Fi} {σ σ₁ σ₂ σ₃:St}
theorem Bm.reput{P B:Aa}{φ:List Addr}{s:Shared}{I:Addr}{o o':Obj}(x:Bm Z (P.put I o) B φ F σ s)(hP:P I=none)(hB:B I=none)(hno:∀v,o.data≠.cell v){h':Heap}{tk:Nat}(k:∀b oo,b≠I→s.heap.get? b=some oo→h'.get? b=some oo)(e':h'.get? I=some o'):
  Bm Z (P.put I o') B φ F σ {s with heap:=h',toks:=tk}:=by
 have ne:∀{a:Addr},P.put I o a=none→a≠I:=by
  rintro a e rfl
  rw[Azk]at e;exact nso e
 have pe:∀{a:Addr},P.put I o a=none→P.put I o' a=none:=fun{a} e=>by
  have h:=ne e
  rw[Azl P _ h]at e⊢;exact e
 refine Aj x.frame.ns λm hn hs=>?_
 have hL:F.L≠I:=ne x.frame.pL
 have hI:s.heap.get? I=some o:=x.toH.base.prot _ _ (Azk _ _ _)
 have nc:∀{c:Addr} {v:Option Value},s.heap.IsCell c v→c≠I:=by
  rintro c v ⟨oo,h1,h2⟩ rfl
  rw[hI]at h1;obtain rfl:=Option.some.inj h1
  exact hno _ h2
 refine⟨⟨⟨?_,x.toH.base.old,λb oo e=>k b oo (by rintro rfl;rw[hB]at e;exact Am e) (x.toH.base.sub b oo e),λb oo e=>?_⟩,⟨x.toH.cells.len,λi a e=>?_,λi xs e=>?_,x.toH.cells.fz,x.toH.cells.nod⟩⟩,⟨x.frame.bL,pe x.frame.pL,⟨m,?_,λi y v e1 e2=>?_⟩,λy c e1 e2=>?_,x.frame.ll⟩⟩
 ·refine Op x.toH.base.same λh t e=>?_
  exact⟨h',tk,by rw[e]⟩
 ·by_cases z:b=I
  ·subst z;rw[Azk]at e;refine Gc e ?_;exact e'
  ·rw[Azl P _ z]at e
   exact k b oo z (x.toH.base.prot b oo (by rw[Azl P _ z];exact e))
 ·refine xe (x.toH.cells.ex i a e) λoo q=>?_
  by_cases z:a=I
  ·subst z;exact⟨_,e'⟩
  ·exact⟨oo,k a oo z q⟩
 ·refine Ar (x.toH.cells.at_ i xs e) λa vs n r1 r2 r3 r4=>?_
  exact⟨a,vs,n,r1,⟨r2.1,pe r2.2⟩,k _ _ (ne r2.2) r3,r4⟩
 ·refine Au hn λoo es ep r1 r2 r3=>?_
  clear hn
  exact⟨oo,es,ep,k _ _ hL r1,r2,r3⟩
 ·refine Aj (hs i y v e1 e2) λcv sl v=>?_
  refine⟨cv,?_,v⟩
  rcases sl with sl | ⟨s1,c,s2,oo,s3,s4⟩ | sl
  ·exact .inl sl
  ·exact .inr (.inl ⟨s1,c,s2,oo,k _ _ (nc ⟨oo,s3,s4⟩) s3,s4⟩)
  ·exact .inr (.inr sl)
 ·refine Fk (x.frame.cl y c e1 e2) λr1 v oo r2 r3=>?_
  have hc:=nc ⟨oo,r2,r3⟩
  refine⟨r1.imp (λr1=>⟨r1.1,r1.2.1,pe r1.2.2⟩) λr1=>⟨r1.1,r1.2.imp λo₁ h=>?_⟩,v,oo,k _ _ hc r2,r3⟩
  rw[Azl P _ hc]at h⊢;exact h
theorem Bm.unput{I:Addr}(x:Bm Z (P.put I o) B φ F σ s)(hP:P I=none)(hno:∀v,o.data≠.cell v):Bm Z P B φ F σ s:=by
 have pe:∀{a:Addr},P.put I o a=none→P a=none:=fun{a} e=>by
  by_cases z:a=I
  ·subst z;exact hP
  ·rwa [Azl P _ z]at e
 refine⟨⟨⟨x.toH.base.same,x.toH.base.old,x.toH.base.sub,λb oo e=>x.toH.base.prot b oo ?_⟩,⟨x.toH.cells.len,x.toH.cells.ex,λi xs e=>?_,x.toH.cells.fz,x.toH.cells.nod⟩⟩,⟨x.frame.bL,pe x.frame.pL,x.frame.ns,λy c e1 e2=>?_,x.frame.ll⟩⟩
 ·rw[Azl]
  ·exact e
  ·rintro rfl;rw[hP]at e;exact Am e
 ·refine Ar (x.toH.cells.at_ i xs e) λa vs n r1 r2 r3 r4=>?_
  exact⟨a,vs,n,r1,⟨r2.1,pe r2.2⟩,r3,r4⟩
 ·refine Fk (x.frame.cl y c e1 e2) λr1 v oo r2 r3=>?_
  refine⟨r1.imp (λr1=>⟨r1.1,r1.2.1,pe r1.2.2⟩) λr1=>⟨r1.1,r1.2.imp λo₁ h=>?_⟩,v,oo,r2,r3⟩
  rwa [Azl]at h
  rintro rfl
  rw[x.toH.base.prot _ _ (Azk _ _ _)]at r2;obtain rfl:=Option.some.inj r2
  exact hno _ r3
theorem Bj.unput{I:Addr}(m:Bj (P.put I o) B B' φ φ')(hP:P I=none):Bj P B B' φ φ':=
 ⟨m.base,λa oo e=>(m.new a oo e).imp id λq=>by
  by_cases z:a=I
  ·subst z;exact hP
  ·rwa [Azl P _ z]at q,m.pre⟩
theorem Bj.off{P B B':Aa}{φ φ':List Addr}{I:Addr}{o:Obj}(m:Bj (P.put I o) B B' φ φ')(hB:B I=none):B' I=none:=by
 cases e:B' I with
 | none=>rfl
 | some oo=>
  rcases m.new I oo e with q | q
  ·rw[hB]at q;exact Am q
  ·rw[Azk]at q;exact nso q
theorem Bm.putNew(x:Bm Z P B φ F σ s)(o:Obj)(ho:(match o with | ⟨_,_,.freed,_⟩=>false | _=>true)=true)(tk:Nat):
  Bm Z (P.put s.heap.objs.size o) B φ F σ {s with heap:=s.heap.push o,toks:=tk}∧P s.heap.objs.size=none∧B s.heap.objs.size=none:=by
 have hn:s.heap.get? s.heap.objs.size=none:=B0 (le_refl _)
 have hs:(s.heap.push o).get? s.heap.objs.size=some o:=by
  show(match (s.heap.objs.push o)[s.heap.objs.size]? with | some ⟨_,_,.freed,_⟩=>none | r=>r)=_
  rw[getElem?_push_size]
  obtain⟨c,d,t,l⟩:=o
  induction t using Data.casesOn with
  | freed=>exact Ff ho
  | _=>rfl
 have y:=x.keep (tk:=tk) (Bo.push s.heap o)
 have ne:∀{a:Addr} {oo:Obj},s.heap.get? a=some oo→a≠s.heap.objs.size:=by
  rintro a oo e rfl
  rw[hn]at e;exact Am e
 have pe:∀{a:Addr} {oo:Obj},s.heap.get? a=some oo→P a=none→P.put s.heap.objs.size o a=none:=fun{a oo} e h=>by rw[Azl P _ (ne e)];exact h
 refine⟨⟨⟨⟨y.toH.base.same,y.toH.base.old,y.toH.base.sub,λb oo e=>?_⟩,⟨y.toH.cells.len,y.toH.cells.ex,λi xs e=>?_,y.toH.cells.fz,y.toH.cells.nod⟩⟩,⟨y.frame.bL,?_,y.frame.ns,λz c e1 e2=>?_,y.frame.ll⟩⟩,x.toH.base.prot.none hn,x.toH.base.sub.none hn⟩
 ·by_cases z:b=s.heap.objs.size
  ·subst z;rw[Azk]at e;refine Gc e ?_;exact hs
  ·rw[Azl P _ z]at e;exact y.toH.base.prot b oo e
 ·refine Ar (x.toH.cells.at_ i xs e) λa vs n r1 r2 r3 r4=>?_
  exact⟨a,vs,n,r1,⟨r2.1,pe r3 r2.2⟩,Bo.push _ _ _ _ r3,r4⟩
 ·refine Aj x.frame.ns λm w1 _=>?_
  obtain⟨oo,es,ep,r1,_⟩:=w1
  exact pe r1 x.frame.pL
 ·refine Fk (x.frame.cl z c e1 e2) λr1 v oo r2 r3=>?_
  refine⟨r1.imp (λr1=>⟨r1.1,r1.2.1,pe r2 r1.2.2⟩) λr1=>⟨r1.1,r1.2.imp λo₁ h=>?_⟩,v,oo,Bo.push _ _ _ _ r2,r3⟩
  rw[Azl P _ (ne r2)];exact h
structure It(Z:Bz)(I:Addr)(ds:List D)(B:Aa) where
 fp:List Addr
 Pv:Nat→Value→Prop
 St:Nat→Heap→Prop
 walk:∀A:Around,A.handled=none→Walks Z.prog Z.w A I fp [I] ds.length Pv St
 ex:∀i h,St i h→∃o n vs,h.get? I=some o∧o.cls = .type n∧o.data = .fields vs∧(["enumerate","zip","dict_itemiterator","dict_reverseitemiterator","odict_iterator","itertools.zip_longest","itertools.pairwise"]:List String).contains n=false
 fpB:∀b∈fp,b=I∨∃o,B b=some o
 rep:∀i v,Pv i v→∃d,ds[i]? = some d∧Er B d v
theorem Pw(x:Bm Z P B φ F ⟨loc,cel⟩ s)(h:Ai cel v=some (ds,cel'))(hv:VR Z B φ v cv)
  (q:∀(B':Aa) (I:Addr) (o:Obj) (s':Shared) (W:It Z I ds B'),Bm Z (P.put I o) B' φ F ⟨loc,cel'⟩ s'→Bj P B B' φ φ→P I=none→B' I=none→W.St 0 s'.heap→Q (.ref I) s'):wpAny Z.M A (pyIter cv) Q E s:=by
 have lst:∀{B':Aa} {a:Addr} {vs:Array Value} {n:Nat},Bm Z P B' φ F ⟨loc,cel'⟩ s→Bj P B B' φ φ→B' a=some (Bp vs n)→Reps B' ds vs.toList→cv = .ref a→wpAny Z.M A (pyIter cv) Q E s:=by
  rintro B' a vs n x' m hb hr rfl
  have ha:=x'.toH.base.sub _ _ hb
  refine wpAny_pyIter_list (An ha) ?_
  refine Pb (x'.putNew {cls:=.type "list_iterator",data:=.fields #[.ref a,.int 0 0]} rfl s.toks) λy1 y2 y3=>?_
  have hne:a≠s.heap.objs.size:=ne_of_lt (Heap.lt_size ha)
  have hsz:vs.size=ds.length:=by simpa using hr.length
  exact q B' s.heap.objs.size _ _ ⟨[s.heap.objs.size,a],λi v=>vs[i]? = some v,λi h=>h.IsListIter s.heap.objs.size a i∧h.IsList a vs,λA' hA'=>hsz▸Walks.list hA' s.heap.objs.size a hne vs,
   λi h st=>let ⟨o,ho,hc,hd⟩:=st.1;⟨o,_,_,ho,hc,hd,by decide⟩,λb hb'=>by
    rcases mem_cons.mp hb' with h | h
    ·exact .inl h
    ·exact .inr ⟨_,by rw[mem_singleton.mp h];exact hb⟩,λi v hi=>by
    have hi':vs.toList[i]? = some v:=by rw[getElem?_toList];exact hi
    have hlt:i < ds.length:=by
     have:=(List.getElem?_eq_some_iff.mp hi').1
     rw[hr.length]at this;exact this
    refine Aj (hr.get (List.getElem?_eq_getElem hlt)) λu u1 u2=>?_
    rw[hi']at u1;refine spr u1 ?_
    exact⟨_,List.getElem?_eq_getElem hlt,u2⟩⟩ y1 m y2 y3 ⟨⟨_,Heap.get?_push_size _ rfl,rfl,rfl⟩,(An ha).push _⟩
 induction v with
 | d x'=>
  induction x' using D.casesOn with
  | lst l=>
   cases h
   refine Au hv λa n vs z h1 h2=>?_
   clear hv
   subst z
   exact lst x (.refl B φ) h1 h2 rfl
  | str y=>
   cases h
   refine xe hv λt z=>?_
   clear hv
   subst z
   have rep:∀i v,SignAt y i v→∃d,(y.cps.toList.map λc=>D.str ⟨#[c]⟩)[i]? = some d∧Er B d v:=by
    rintro i v ⟨c,u,h1,rfl⟩
    refine⟨.str ⟨#[c]⟩,by simp[h1],?_⟩
    exact⟨u,rfl⟩
   have hl:(y.cps.toList.map λc=>D.str ⟨#[c]⟩).length=y.cps.size:=by exact length_map _
   cases ha:y.cps.all (· < 128)
   ·refine wpAny_pyIter_wide ha ?_
    refine Pb (x.putNew {cls:=.type "str_iterator",data:=.fields #[.str y t,.int 0 0]} rfl s.toks) λy1 y2 y3=>?_
    exact q B s.heap.objs.size _ _ ⟨[s.heap.objs.size],SignAt y,λi h=>h.IsStrIter s.heap.objs.size "str_iterator" y t i,λA' hA'=>by rw[hl];exact Walks.strWide hA' _ y t,
     λi h st=>let ⟨o,ho,hc,hd⟩:=st;⟨o,_,_,ho,hc,hd,by decide⟩,λb hb'=>.inl (mem_singleton.mp hb'),rep⟩ y1 (.refl B φ) y2 y3 ⟨_,Heap.get?_push_size _ rfl,rfl,rfl⟩
   ·refine wpAny_pyIter_ascii ha ?_
    refine Pb (x.putNew {cls:=.type "str_ascii_iterator",data:=.fields #[.str y t,.int 0 0]} rfl s.toks) λy1 y2 y3=>?_
    exact q B s.heap.objs.size _ _ ⟨[s.heap.objs.size],SignAt y,λi h=>h.IsStrIter s.heap.objs.size "str_ascii_iterator" y t i,λA' hA'=>by rw[hl];exact Walks.strAscii hA' _ y t,
     λi h st=>let ⟨o,ho,hc,hd⟩:=st;⟨o,_,_,ho,hc,hd,by decide⟩,λb hb'=>.inl (mem_singleton.mp hb'),rep⟩ y1 (.refl B φ) y2 y3 ⟨_,Heap.get?_push_size _ rfl,rfl,rfl⟩
  | _=>exact Am h
 | cell i=>
  have h:(match cel[i]? with | some c=>some (c.items,cel.set i (.f c.items)) | none=>none)=some (ds,cel'):=h
  generalize hc:cel[i]? = u at h
  rcases u with _ | c
  ·exact Am h
  cases h
  refine Aj hv λa e z=>?_
  clear hv
  subst z
  refine D7 (Pn (v:=.cell i) (d:=.lst c.items) (cel':=cel.set i (.f c.items)) x (by simp only[toD,hc]) ⟨a,e,rfl⟩) λB' x' m r=>?_
  refine Au r λa' n vs e' h1 h2=>?_
  clear r
  cases e'
  exact lst x' m h1 h2 rfl
 | rng n=>
  have h:(if n < 100000 then some (Yt n,cel)else none)=some (ds,cel'):=h
  by_cases hn:n < 100000
  case neg=>rw[if_neg hn]at h;exact Am h
  rw[if_pos hn]at h
  cases h
  refine Zz hv λr t u w z hb=>?_
  clear hv
  subst z
  have hsz:Builtin.Range.rangeSize 0 (n:Int) 1=n:=by
   delta Builtin.Range.rangeSize
   simp only[show(1:Int) > 0 by decide,if_true]
   split<;>lia
  have hsm:Builtin.Range.small 0 (n:Int) 1=true:=by
   have fl:∀j:Int,0≤j→j < 200000→Builtin.Range.rangeFitsLong j=true:=λj h1 h2=>by
    delta Builtin.Range.rangeFitsLong
    rw[Bool.and_eq_true]
    exact⟨decide_eq_true (by lia),decide_eq_true (by lia)⟩
   delta Builtin.Range.small
   rw[hsz,fl 0 (by lia) (by exact Int.natCast_nonneg _),fl 1 (by lia) (by exact Int.natCast_nonneg _),fl n (by lia) (by lia),if_pos (by decide),fl (n+(1 - 1)) (by lia) (by lia)]
   simp
  have hr:IsRange s.heap r 0 n 1 t u w:=x.toH.base.sub _ _ hb
  refine wpAny_pyIter_range hr hsm ?_
  rw[hsz]
  refine Pb (x.putNew {cls:=.type "range_iterator",data:=.fields #[rawInt 0,rawInt n,rawInt 1]} rfl s.toks) λy1 y2 y3=>?_
  have hl:(Yt n).length=n:=by simp[Yt]
  exact q B s.heap.objs.size _ _ ⟨[s.heap.objs.size],λi v=>i < n∧∃t,v = .int (0+i*1) t,λi h=>IsRangeIter h s.heap.objs.size (0+(i:Nat)*1) ((n:Int) - (i:Nat)) 1,λA' hA'=>by rw[hl];exact(Walks.range hA' s.heap.objs.size 0 1 n).bound,
   λi h st=>⟨_,_,_,st,rfl,rfl,by decide⟩,λb hb'=>.inl (mem_singleton.mp hb'),λi v hi=>by
    refine xae hi λhi t z=>?_
    subst z
    refine⟨.int i,by simp[Yt,hi],?_⟩
    exact⟨t,by rw[Int.zero_add,Int.mul_one]⟩⟩ y1 (.refl B φ) y2 y3 (by
     show IsRangeIter _ _ (0+((0:Nat):Int)*1) ((n:Int) - ((0:Nat):Int)) 1
     have:IsRangeIter (s.heap.push {cls:=.type "range_iterator",data:=.fields #[rawInt 0,rawInt n,rawInt 1]}) s.heap.objs.size 0 n 1:=Heap.get?_push_size _ rfl
     rw[show(0:Int)+((0:Nat):Int)*1=0 from by lia,show(n:Int) - ((0:Nat):Int)=n from by lia]
     exact this)
 | _=>exact Am h
end
section
variable {Z:Bz} {k:Nat} {F:Fi} {σ σ₁ σ₂ σ₃:St}
theorem T5(h:ix sc y=some i):(sc.names.map (·.1))[i]? = some y:=by
 obtain⟨hi,hp,_⟩:=findIdx?_eq_some_iff_getElem.mp h
 rw[getElem?_map,List.getElem?_eq_getElem hi]
 exact eq_of_beq hp
theorem Fi.kind(h:F.sc.names.lookup y=some kd)(hk:kd≠.free):F.env.kindOf y=some kd:=by
 rcases F.msk y with e | ⟨e,_⟩
 ·show F.env.scope.names.lookup y=_
  rw[←e];exact h
 ·rw[e]at h;obtain rfl:=Option.some.inj h;exact absurd rfl hk
set_option tactic.hygienic true in
theorem E2(x:Bm Z P B φ F σ s)(h:σ.setName F.sc y v=some σ₁)(hv:VR Z B φ v cv)
  (q:∀s',Bm Z P B φ F σ₁ s'→Q () s'):wpAny Z.M A (storeName F.env y cv) Q E s:=by
 have names:∀{i:Nat},ix F.sc y=some i→F.names[i]? = some y∧i < σ.loc.length:=fun{i} hi=>by
  have h1:F.names[i]? = some y:=by
   have:=T5 hi
   rw[show F.sc.names.map (·.1)=F.names from F.msn]at this
   exact this
  refine⟨h1,?_⟩
  rw[x.frame.ll]
  exact(List.getElem?_eq_some_iff.mp h1).1
 delta St.setName at h
 generalize hk:F.sc.names.lookup y=k' at h
 generalize hi:ix F.sc y=j at h
 rcases k' with _ | k'
 ·exact Am h
 rcases j with _ | i
 ·rcases k'<;>exact Am h
 refine xa (names hi) λn1 n2=>?_
 rcases k' with _ | _ | _ | _ | _
 ·obtain rfl:=Option.some.inj h
  exact x.setLoc n1 (.inl (Fi.kind hk (by decide))) hv q n2
 ·obtain rfl:=Option.some.inj h
  have hc:=Fi.kind hk (by decide)
  have nb:¬F.bor y:=λhb=>by
   have e:=F.msb y hb
   rw[show F.ms.names.lookup y=some .cell from hk]at e
   cases e
  exact x.setLoc n1 (.inr ⟨hc,nb,F.has y hc⟩) hv q n2
 all_goals exact Am h
theorem Af7(hA:A.handled=none)(x:Bm Z P B φ F σ s)(h:S0 F.sc t d σ=some σ₁)(hv:Er B d cv)
  (q:∀s',Bm Z P B φ F σ₁ s'→Q () s'):wpAny Z.M A (assign t F.env cv) Q E s:=by
 refine Ay h λes h1 h=>?_
 refine Ay h λw h2 h=>?_
 obtain⟨t1,t2⟩:=w
 refine Ay h λy h3 h=>?_
 refine Ay h λz h4 h=>?_
 refine Ay h λl h5 h=>?_
 refine Ay h λw h6 h=>?_
 obtain⟨a,b⟩:=w
 refine Ay h λσ' h7 h8=>?_
 refine Op (Abs h1) λn p'' z1=>?_
 subst z1
 refine xe (Gd h3) λp z1=>?_
 subst z1
 refine xe (Gd h4) λp' z1=>?_
 subst z1
 rw[Kf h2]
 rw[D.tps_inv h5,Kf h6]at hv
 obtain⟨ad,n',vs,rfl,hb,va,r1,e1,ra,vb,r2,rfl,rb,rfl⟩:=hv
 have hl:=x.toH.base.sub _ _ hb
 have ht:IsTup s.heap ad vs:=⟨_,hl,rfl,_,rfl⟩
 have hsz:vs.size=2:=by rw[←length_toList,e1];rfl
 refine assign_Tuple_tuple hA ht (by rw[hsz];rfl) rfl λh' he=>?_
 have kp:Bo s.heap h':=λb o e=>he b o (ne_of_lt (Heap.lt_size e)) e
 rw[e1]
 show wpAny Z.M A (do holding [vb] (assign (.Name y p) F.env va);holding [] (assign (.Name z p') F.env vb) >>= λ_=>pure ()) Q E _
 exact wpAny_bind (wpAny_holding (wpAny_assign_Name (E2 (x.keep kp) h7 (v:=.d a) ra λs₁ x₁=>
  wpAny_bind (wpAny_holding (wpAny_assign_Name (E2 x₁ h8 (v:=.d b) rb λs₂ x₂=>wpAny_pure (q s₂ x₂)))))))
theorem R3(hA:A.handled=none)(x:Bm Z P B φ F σ s)(h:bindT F.sc t d σ=some σ₁)(hv:Er B d cv)
  (q:∀s',Bm Z P B φ F σ₁ s'→Q () s'):wpAny Z.M A (assign t F.env cv) Q E s:=by
 rcases el (b:=S0 F.sc t d σ) h with⟨_,h⟩ | ⟨y,h1,h⟩
 ·exact Af7 hA x h hv q
 ·refine xe (Gd h1) λp z=>?_
  subst z
  exact wpAny_assign_Name (E2 x h hv q)
theorem Z5{E:Value→Shared→Prop}{Q:Unit→Shared→Prop}{I:Addr}(h1:s.heap.get? I=some o)(h2:o.cls = .type n)(h3:o.data = .fields vs)
  (h4:(["enumerate","zip","dict_itemiterator","dict_reverseitemiterator","odict_iterator","itertools.zip_longest","itertools.pairwise"]:List String).contains n=false) (q:Q () s):wpAny (model prog w) A (letOwnedTupleGo t (.ref I) v) Q E s:=by
 have key:∀a,wpAny (model prog w) A (do
   let o ←load I
   match o.cls,o.data with
   | .type n,.fields vs=>
    if ["enumerate","zip","dict_itemiterator","dict_reverseitemiterator","odict_iterator","itertools.zip_longest","itertools.pairwise"].contains n&&vs[0]? == some (rawInt a)then
     rule "for.unpacks-the-owned-tuple"
     updateField I 0 .none
   | _,_=>pure ()) Q E s:=λa=>by
  refine wpAny_bind (wpAny_load h1 ?_)
  rw[h2,h3]
  simp only[h4,Bool.false_and,Bool.false_eq_true,if_false]
  exact wpAny_pure q
 delta letOwnedTupleGo
 split
 ·rcases v<;>first | exact key _ | exact wpAny_pure q
 ·rcases v<;>first | exact key _ | exact wpAny_pure q
 ·exact wpAny_pure q
structure Ii(Z:Bz)(P B₀:Aa)(φ₀:List Addr)(F:Fi)(I:Addr){ds:List D}{BW:Aa}(W:It Z I ds BW)(i:Nat)(σ:St)(s:Shared)(B:Aa)(φ:List Addr):Prop where
 rel:∃o,Bm Z (P.put I o) B φ F σ s
 mono:Bj P B₀ B φ₀ φ
 le:BW.le B
 pI:P I=none
 bI:B I=none
 st:W.St i s.heap
theorem Ii.obj{P B₀ B:Aa}{φ₀ φ:List Addr}{I:Addr}{ds:List D}{BW:Aa}{W:It Z I ds BW}{i:Nat}{s:Shared}(x:Ii Z P B₀ φ₀ F I W i σ s B φ):
  ∃o n vs,Bm Z (P.put I o) B φ F σ s∧s.heap.get? I=some o∧o.cls = .type n∧o.data = .fields vs∧(["enumerate","zip","dict_itemiterator","dict_reverseitemiterator","odict_iterator","itertools.zip_longest","itertools.pairwise"]:List String).contains n=false:=by
 refine xe x.rel λo r=>?_
 refine Ar (W.ex _ _ x.st) λo' n vs h1 h2 h3 h4=>?_
 have:=r.toH.base.prot _ _ (Azk _ _ _)
 rw[this]at h1;obtain rfl:=Option.some.inj h1
 exact⟨o,n,vs,r,this,h2,h3,h4⟩
theorem Ii.after{P B₀ B B':Aa}{φ₀ φ φ':List Addr}{I:Addr}{ds:List D}{BW:Aa}{W:It Z I ds BW}{i:Nat}{s s':Shared}{o:Obj}(x:Ii Z P B₀ φ₀ F I W i σ s B φ)(ho:s.heap.get? I=some o)(r:Bm Z (P.put I o) B' φ' F σ₁ s')(m:Bj (P.put I o) B B' φ φ'):
  Ii Z P B₀ φ₀ F I W i σ₁ s' B' φ':=by
 refine⟨⟨o,r⟩,x.mono.trans (m.unput x.pI),x.le.trans m.base,x.pI,m.off x.bI,(W.walk {handled:=none,depth:=0,frames:=none,guards:=none,units:=0} rfl).frame _ _ _ x.st λb hb oo e=>?_⟩
 rcases W.fpB b hb with rfl | ⟨ob,hob⟩
 ·rw[ho]at e;refine Gc e ?_
  exact r.toH.base.prot _ _ (Azk _ _ _)
 ·refine xe x.rel λo₁ r₁=>?_
  have h1:=r₁.toH.base.sub _ _ (x.le _ _ hob)
  rw[h1]at e;refine Gc e ?_
  exact r.toH.base.sub _ _ (m.base _ _ (x.le _ _ hob))
end
section
variable {Z:Bz} {k:Nat} {F:Fi} {σ σ₁ σ₂ σ₃:St}
theorem Bm.gone{I:Addr}(x:Bm Z (P.put I o) B φ F σ s)(hP:P I=none)(hB:B I=none)(hno:∀v,o.data≠.cell v){tk:Nat}(k:∀b oo,b≠I→s.heap.get? b=some oo→h'.get? b=some oo):
  Bm Z P B φ F σ {s with heap:=h',toks:=tk}:=by
 have ne:∀{a:Addr},P.put I o a=none→a≠I:=by
  rintro a e rfl
  rw[Azk]at e;exact nso e
 have pe:∀{a:Addr},P.put I o a=none→P a=none:=fun{a} e=>by
  have h:=ne e
  rw[Azl P _ h]at e;exact e
 refine Aj x.frame.ns λm hn hs=>?_
 have hL:F.L≠I:=ne x.frame.pL
 have hI:s.heap.get? I=some o:=x.toH.base.prot _ _ (Azk _ _ _)
 have nc:∀{c:Addr} {v:Option Value},s.heap.IsCell c v→c≠I:=by
  rintro c v ⟨oo,h1,h2⟩ rfl
  rw[hI]at h1;obtain rfl:=Option.some.inj h1
  exact hno _ h2
 have nB:∀{b:Addr} {oo:Obj},B b=some oo→b≠I:=by
  rintro b oo e rfl
  rw[hB]at e;exact Am e
 refine⟨⟨⟨?_,x.toH.base.old,λb oo e=>k b oo (nB e) (x.toH.base.sub b oo e),λb oo e=>?_⟩,⟨x.toH.cells.len,λi a e=>?_,λi xs e=>?_,x.toH.cells.fz,x.toH.cells.nod⟩⟩,⟨x.frame.bL,pe x.frame.pL,⟨m,?_,λi y v e1 e2=>?_⟩,λy c e1 e2=>?_,x.frame.ll⟩⟩
 ·refine Op x.toH.base.same λh t e=>?_
  exact⟨h',tk,by rw[e]⟩
 ·have z:b≠I:=by rintro rfl;rw[hP]at e;exact Am e
  exact k b oo z (x.toH.base.prot b oo (by rw[Azl P _ z];exact e))
 ·refine xe (x.toH.cells.ex i a e) λoo q=>?_
  refine⟨oo,k a oo ?_ q⟩
  have hlt:i < σ.cel.length:=by
   rw[←x.toH.cells.len];exact(List.getElem?_eq_some_iff.mp e).1
  have hc:=List.getElem?_eq_getElem hlt
  cases hcel:σ.cel[i]with
  | m xs=>
   rw[hcel]at hc
   refine Au (x.toH.cells.at_ i xs hc) λa' vs n r1 r2 _=>?_
   rw[e]at r1;refine spr r1 ?_
   exact ne r2.2
  | f xs=>
   rw[hcel]at hc
   refine Au (x.toH.cells.fz i xs hc) λa' vs n r1 r2 _=>?_
   rw[e]at r1;refine spr r1 ?_
   exact nB r2
 ·refine Ar (x.toH.cells.at_ i xs e) λa vs n r1 r2 r3 r4=>?_
  exact⟨a,vs,n,r1,⟨r2.1,pe r2.2⟩,k _ _ (ne r2.2) r3,r4⟩
 ·refine Au hn λoo es ep r1 r2 r3=>?_
  clear hn
  exact⟨oo,es,ep,k _ _ hL r1,r2,r3⟩
 ·refine Aj (hs i y v e1 e2) λcv sl v=>?_
  refine⟨cv,?_,v⟩
  rcases sl with sl | ⟨s1,c,s2,oo,s3,s4⟩ | sl
  ·exact .inl sl
  ·exact .inr (.inl ⟨s1,c,s2,oo,k _ _ (nc ⟨oo,s3,s4⟩) s3,s4⟩)
  ·exact .inr (.inr sl)
 ·refine Fk (x.frame.cl y c e1 e2) λr1 v oo r2 r3=>?_
  have hc:=nc ⟨oo,r2,r3⟩
  refine⟨r1.imp (λr1=>⟨r1.1,r1.2.1,pe r1.2.2⟩) λr1=>⟨r1.1,r1.2.imp λo₁ h=>?_⟩,v,oo,k _ _ hc r2,r3⟩
  rw[Azl P _ hc]at h;exact h
theorem Oq{st:Stmt}{rest:List Stmt}{fl:Fl}(hn:fl≠.next)(h:EX Z k F st σ fl σ₁):XS Z k F (st::rest) σ fl σ₁:=by
 intro A P B φ s Q E hA x q
 refine wpAny_execs_cons (h A P B φ s _ E hA x λB₁ φ₁ s₁ f x₁ m₁ e₁=>?_)
 have e₀:=q B₁ φ₁ s₁ f x₁ m₁ e₁
 induction fl with
 | next=>exact absurd rfl hn
 | brk=>have e₁:f = .brk:=e₁;subst e₁;exact e₀
 | cont=>have e₁:f = .cont:=e₁;subst e₁;exact e₀
 | ret v=>obtain⟨cv,rfl,hv⟩:=e₁;exact e₀
theorem Aji(hit:EV Z k F it σ v σ₁)(hi:Ai σ₁.cel v=some (ds,cel'))
  (hb:∀σ fl σ',body σ=some (fl,σ')→XS Z k F b σ fl σ') (h:H3 body F.sc t ds ⟨σ₁.loc,cel'⟩=some (fl,σ'))
  (hs:∀x,foldedSetIterable it F.env x=pure x):EX Z k F (.For t it b [] p) σ fl σ':=by
 intro A P B φ s Q E hA x q
 refine wpAny_For (hit A P B φ s _ E hA x λB₁ φ₁ s₁ cv x₁ m₁ e₁=>?_) hs
 refine Pw (loc:=σ₁.loc) (cel:=σ₁.cel) x₁ hi e₁ λB₂ I o s₂ W x₂ m₂ pI bI st=>?_
 refine codeAny_forLoop_any (λn s=>∃(i:Nat) (σi:St) (B':Aa) (φ':List Addr),n+i=ds.length∧Ii Z P B φ F I W i σi s B' φ'∧H3 body F.sc t (ds.drop i) σi=some (fl,σ')) ?_ ds.length
  ⟨0,_,B₂,φ₁,rfl,⟨⟨o,x₂⟩,m₁.trans m₂,.refl _,pI,bI,st⟩,h⟩
 intro n s₃ w1
 refine Wx w1 λi σi B₃ φ₃ hn L hf=>?_
 clear w1
 refine E3 L.obj λo nm vs r hI hc hd hne=>?_
 have hno:∀v,o.data≠.cell v:=λv e=>by rw[hd]at e;exact nomatch e
 have wr:∀{h':Heap},(∀b oo,b∉[I]→s₃.heap.get? b=some oo→h'.get? b=some oo)→∀b oo,b≠I→s₃.heap.get? b=some oo→h'.get? b=some oo:=λhk b oo e=>hk b oo (by simpa using e)
 by_cases hlt:i < ds.length
 ·refine(W.walk A hA.hd).item i s₃ _ _ hlt L.st λv h' tk hv st' hk=>?_
  refine Ar (W.ex _ _ st') λo' nm' vs' hI' hc' hd' hne'=>?_
  refine Aj (W.rep i v hv) λd hd0 hrep=>?_
  have hdr:ds.drop i=d::ds.drop (i+1):=by
   have:ds[i]=d:=by rw[List.getElem?_eq_getElem hlt]at hd0;exact Option.some.inj hd0
   rw[drop_eq_getElem_cons hlt,this]
  rw[hdr]at hf
  refine Ay hf λσa hbt hf=>?_
  refine Ay hf λw hbody hf=>?_
  obtain⟨fl',σb⟩:=w
  have r':=r.reput (o':=o') (tk:=tk) L.pI L.bI hno (wr hk) hI'
  refine Z5 hI' hc' hd' hne' ?_
  refine R3 hA.hd r' hbt (hrep.mono L.le) λs₄ x₄=>?_
  have st4:W.St (i+1) s₄.heap:=(W.walk A hA.hd).frame _ _ _ st' λb hb' oo e=>by
   rcases W.fpB b hb' with rfl | ⟨ob,hob⟩
   ·have e':h'.get? b=some oo:=e
    rw[hI']at e';refine Gc e' ?_
    exact x₄.toH.base.prot _ _ (Azk _ _ _)
   ·have h1:h'.get? b=some ob:=r'.toH.base.sub _ _ (L.le _ _ hob)
    have e':h'.get? b=some oo:=e
    rw[h1]at e';refine Gc e' ?_
    exact x₄.toH.base.sub _ _ (L.le _ _ hob)
  have L4:Ii Z P B φ F I W (i+1) σa s₄ B₃ φ₃:=⟨⟨o',x₄⟩,L.mono,L.le,L.pI,L.bI,st4⟩
  have hI4:s₄.heap.get? I=some o':=x₄.toH.base.prot _ _ (Azk _ _ _)
  have hno':∀v,o'.data≠.cell v:=λv e=>by rw[hd']at e;exact nomatch e
  refine hb _ _ _ hbody A (P.put I o') B₃ φ₃ s₄ _ _ hA x₄ λB₅ φ₅ s₅ f x₅ m₅ e₅=>?_
  have L5:=L4.after hI4 x₅ m₅
  induction fl' with
  | next=>
   have e₅:f = .next:=e₅
   subst e₅
   exact⟨n - 1,by lia,i+1,σb,B₅,φ₅,by lia,L5,hf⟩
  | cont=>
   have e₅:f = .cont:=e₅
   subst e₅
   exact⟨n - 1,by lia,i+1,σb,B₅,φ₅,by lia,L5,hf⟩
  | brk=>
   have e₅:f = .brk:=e₅
   subst e₅
   cases hf
   exact q B₅ φ₅ s₅ _ (x₅.unput L.pI hno') L5.mono rfl
  | ret v=>
   refine Aj e₅ λcv z hv=>?_
   clear e₅
   subst z
   cases hf
   exact q B₅ φ₅ s₅ _ (x₅.unput L.pI hno') L5.mono ⟨cv,rfl,hv⟩
 ·have hi':i=ds.length:=by lia
  rw[hi',drop_length]at hf
  cases hf
  refine(W.walk A hA.hd).done s₃ _ _ (hi'▸L.st) λh' tk hk=>?_
  refine wpAny_execs_nil ?_
  exact q B₃ φ₃ _ _ (r.gone L.pI L.bI hno (wr hk)) L.mono rfl
theorem Aa0{test:Nat→St→Option (Bool×St)}{body:Nat→St→Option (Fl×St)}{loop:Nat→St→Option (Fl×St)}(n:Nat)
  (ht:∀m,m < n→∀σ r σ',test m σ=some (r,σ')→TV Z k F t σ r σ') (hb:∀m,m < n→∀σ fl σ',body m σ=some (fl,σ')→XS Z k F b σ fl σ')
  (h0:∀σ,loop 0 σ=none)
  (hl:∀n σ,loop (n+1) σ=(test n σ).bind λx=>match x with
    | (true,σ)=>(body n σ).bind λy=>match y with
     | (.next,σ)=>loop n σ
     | (.cont,σ)=>loop n σ
     | (.brk,σ)=>some (.next,σ)
     | (.ret v,σ)=>some (.ret v,σ)
    | (false,σ)=>some (.next,σ)) (h:loop n σ=some (fl,σ')):EX Z k F (.While t b [] p) σ fl σ':=by
 intro A P B φ s Q E hA x q
 refine wpAny_While ?_
 refine codeAny_whileLoop (λj s=>j≤n∧∃(σi:St) (B':Aa) (φ':List Addr),Bm Z P B' φ' F σi s∧Bj P B B' φ φ'∧loop j σi=some (fl,σ')) ?_ n ⟨le_refl n,σ,B,φ,x,.refl B φ,h⟩
 intro j s₁ w1
 obtain⟨hj,σi,B₁,φ₁,x₁,m₁,hf⟩:=w1
 induction j using Nat.casesOn with
 | zero=>rw[h0]at hf;exact Am hf
 | succ j=>
  rw[hl]at hf
  refine Ay hf λw htest hf=>?_
  obtain⟨r,σa⟩:=w
  refine ht j hj _ _ _ htest A P B₁ φ₁ s₁ _ _ hA x₁ λB₂ φ₂ s₂ r' x₂ m₂ e₂=>?_
  have e₂:r'=r:=e₂
  subst e₂
  induction r' with
  | false=>
   cases hf
   exact wpAny_execs_nil (q B₂ φ₂ s₂ _ x₂ (m₁.trans m₂) rfl)
  | true=>
   refine Ay hf λw hbody hf=>?_
   obtain⟨fl',σb⟩:=w
   refine hb j hj _ _ _ hbody A P B₂ φ₂ s₂ _ _ hA x₂ λB₅ φ₅ s₅ f x₅ m₅ e₅=>?_
   induction fl' with
   | next=>
    have e₅:f = .next:=e₅
    subst e₅
    exact⟨j,lt_succ_self j,le_of_lt hj,σb,B₅,φ₅,x₅,(m₁.trans m₂).trans m₅,hf⟩
   | cont=>
    have e₅:f = .cont:=e₅
    subst e₅
    exact⟨j,lt_succ_self j,le_of_lt hj,σb,B₅,φ₅,x₅,(m₁.trans m₂).trans m₅,hf⟩
   | brk=>
    have e₅:f = .brk:=e₅
    subst e₅
    cases hf
    exact q B₅ φ₅ s₅ _ x₅ ((m₁.trans m₂).trans m₅) rfl
   | ret v=>
    refine Aj e₅ λcv z hv=>?_
    clear e₅
    subst z
    cases hf
    exact q B₅ φ₅ s₅ _ x₅ ((m₁.trans m₂).trans m₅) ⟨cv,rfl,hv⟩
end
section
variable {prog:Program} {w:World} {A:Around} {E:Value→Shared→Prop} {R:Result→Shared→Prop} {s:Shared}
theorem My(hl:s.heap.get? l=some (Bp vs n))
  (hQ:∀h' n',h'.get? l=some (Bp (vs.push x) n')→(∀b o,b≠l→s.heap.get? b=some o→h'.get? b=some o)→Q .none {s with heap:=h'}) (hsz:vs.size≤sizeLine):
  wpAny (model prog w) A (call (.builtin "list.append") [.ref l,x]) Q E s:=by
 have hl':=An hl
 refine wpAny_call_entry slot_list_append hl'.typeIs entry_list_append ?_ (args_list_append _ _)
 show wpAny _ _ (updateSeq l (·.push x) >>= λ_=>ret .none) _ _ s
 refine wpAny_bind ?_
 have key:=PySem.IsL.update hl (·.push x)
 exact wpAny_updateSeq hl rfl (wpAny_pure ⟨.none,rfl,hQ _ _ key λb o hb e=>(Heap.get?_update_other _ _ (Ne.symm hb)).trans e⟩)
noncomputable def Tg(target iter:Expr)(ifs:List Expr)(it:Value)(env:Env)(rest:Sem Unit)(c:Code):Sem Fin:=do
 standAt iter.pos
 match ←pyNext it with
 | none=>pure (.done .next)
 | some v=>
  letOwnedTupleGo target it v
  assign target env v
  let mut ok:=true
  for c in ifs do
   if ok then ok ←isTrue c env (eval c env)
  if ok then
   rest
  again c
theorem O9(I:Nat→Shared→Prop)
  (hc:compTurn (.ListComp elt gens scope pos) depth it acc env=Tg target iter ifs it env rest (.compLoop (.ListComp elt gens scope pos) depth it acc env))
  (turn:∀n s,I n s→wpAny (model prog w) A (pyNext it) (λr s₁=>match r with
   | none=>R (.ok .next) s₁
   | some v=>wpAny (model prog w) A (letOwnedTupleGo target it v) (λ_ s₁'=>wpAny (model prog w) A (assign target env v) (λ_ s₂=>
     wpAny (model prog w) A (forIn ifs true λc r=>if r=true then do let ok ←isTrue c env (eval c env);pure (ForInStep.yield ok)else pure (ForInStep.yield r)) (λok s₃=>
      if ok=true then wpAny (model prog w) A rest (λ_ s₅=>∃m,m < n∧I m s₅) (notedBy (model prog w) A env λe s'=>R (.error e) s') s₃
      else ∃m,m < n∧I m s₃) (notedBy (model prog w) A env λe s'=>R (.error e) s') s₂) (notedBy (model prog w) A env λe s'=>R (.error e) s') s₁') (notedBy (model prog w) A env λe s'=>R (.error e) s') s₁) (notedBy (model prog w) A env λe s'=>R (.error e) s') s)
  (n:Nat) (h:I n s):
  codeAny (model prog w) A (.compLoop (.ListComp elt gens scope pos) depth it acc env) R s:=by
 refine codeAny_loop rfl I (λn s hI=>?_) n h
 show wpAny _ A ((compTurn (.ListComp elt gens scope pos) depth it acc env).onRaise (λx=>do noteFrame x env;theTreesLotGoes x)) _ _ s
 refine wpAny_noted ?_
 rw[hc]
 refine wpAny_bind (wpAny_standAt (wpAny_bind (wpAny_mono (turn n s hI) (λr s₁ h₁=>?_) λ_ _ h'=>h')))
 induction r with
 | none=>exact wpAny_pure h₁
 | some v=>
  refine wpAny_bind (wpAny_mono h₁ (λ_ s₁' h₁'=>?_) λ_ _ h'=>h')
  refine wpAny_bind (wpAny_mono h₁' (λ_ s₂ h₂=>wpAny_bind (wpAny_mono h₂ (λok s₃ h₃=>?_) λ_ _ h'=>h')) λ_ _ h'=>h')
  induction ok with
  | false=>exact wpAny_pure ⟨rfl,h₃⟩
  | true=>exact wpAny_bind (wpAny_mono h₃ (λ_ s₅ h₅=>wpAny_pure ⟨rfl,h₅⟩) λ_ _ h'=>h')
theorem Hr
  (hg:gens[depth]? = some g) (ha:g.is_async=0)
  (h0:codeAny (model prog w) A (.compLoop (.ListComp elt gens scope pos) depth it acc env) R s)
  (h:wpAny (model prog w) A (pyIter it) (λit' s'=>codeAny (model prog w) A (.compLoop (.ListComp elt gens scope pos) depth it' acc env) R s')
   (notedBy (model prog w) A env λx s'=>R (.error x) s') s):
  codeAny (model prog w) A (.compStart (.ListComp elt gens scope pos) depth it acc env) R s:=by
 refine codeAny_of_tree ?_
 show wpAny _ _ ((compStart (.ListComp elt gens scope pos) depth it acc env).onRaise (λx=>do noteFrame x env;standAt theWindowsPlace)) _ _ s
 refine wpAny_notedAt ?_
 delta compStart
 have e:(clausesOf (.ListComp elt gens scope pos))[depth]? = some g:=hg
 rw[e]
 have e':((some g).elim false λx=>x.is_async != 0)=false:=by simp[ha]
 rw[e']
 refine wpAny_bind (wpAny_askSetting (wpAny_ite ?_))
 split
 ·first
   | exact wpAny_bind (wpAny_pure (wpAny_pure (And.intro rfl h0)))
   | exact wpAny_pure (And.intro rfl h0)
 ·first
   | exact wpAny_bind (wpAny_rule (wpAny_bind (wpAny_standAt (wpAny_bind (wpAny_mono h (λit' s' h'=>wpAny_pure (And.intro rfl h')) λ_ _ x=>x)))))
end
section
variable {Z:Bz} {k:Nat} {F:Fi} {σ σ₁ σ₂ σ₃:St}
def JA(Z:Bz)(k:Nat)(F:Fi)(i:Nat)(a:Addr)(t:Sem Unit)(σ σ':St):Prop:=
 ∀(A:Around) (P B:Aa) (φ:List Addr) (s:Shared) (Q:Unit→Shared→Prop) (E:Value→Shared→Prop),Dk k A→Bm Z P B φ F σ s→φ[i]? = some a→
  (∀B' φ' s',Bm Z P B' φ' F σ' s'→Bj P B B' φ φ'→Q () s')→wpAny Z.M A t Q E s
noncomputable def Gp(sc:Scope)(t:Expr)(test:St→Option (Bool×St))(rest:St→Option St):List D→St→Option St
 | [],σ=>some σ
 | v::vs,σ=>(bindT sc t v σ).bind λσ=>(test σ).bind λx=>match x with
  | (true,σ)=>(rest σ).bind λσ=>Gp sc t test rest vs σ
  | (false,σ)=>Gp sc t test rest vs σ
theorem Jb:∀(ds:List D) (σ:St),Cd r sc elt i t ifs ds σ=Gp sc t (Fm r sc ifs) (Hs r sc elt i) ds σ
 | [],_=>rfl
 | d::ds,σ=>by
  have ih:=λσ=>Jb (r:=r) (sc:=sc) (elt:=elt) (t:=t) (i:=i) (ifs:=ifs) ds σ
  simp only[Cd,Gp,ih]
  all_goals rfl
theorem Mt:∀(ds:List D) (σ:St),Dt r sc elt i t g ds σ=Gp sc t (λσ=>some (true,σ))
  (λσ=>(r.e sc g.iter σ).bind λx=>(Ai x.2.cel x.1).bind λy=>Cd r sc elt i g.target g.ifs y.1 ⟨x.2.loc,y.2⟩) ds σ
 | [],_=>rfl
 | d::ds,σ=>by
  have ih:=λσ=>Mt (r:=r) (sc:=sc) (elt:=elt) (t:=t) (i:=i) (g:=g) ds σ
  simp only[Dt,Gp,ih]
  cases bindT sc t d σ with
  | none=>rfl
  | some σa=>
   simp only[bind_some]
   cases r.e sc g.iter σa with
   | none=>rfl
   | some x=>
    simp only[bind_some]
    cases Ai x.2.cel x.1<;>rfl
theorem Jd{a:Addr}{i:Nat}{depth:Nat}{I:Addr}(W:It Z I ds BW)
  {test:St→Option (Bool×St)} {restM:St→Option St}
  (hc:compTurn (.ListComp elt gens scope pos) depth (.ref I) (.ref a) F.env=Tg target iter ifs (.ref I) F.env rest (.compLoop (.ListComp elt gens scope pos) depth (.ref I) (.ref a) F.env))
  (ht:∀σ r σ',test σ=some (r,σ')→J Z k F (forIn ifs true λc r=>if r=true then do let ok ←isTrue c F.env (eval c F.env);pure (ForInStep.yield ok)else pure (ForInStep.yield r)) σ (λ_ _ b=>b=r) σ')
  (hr:∀σ σ',restM σ=some σ'→JA Z k F i a rest σ σ') {R:Result→Shared→Prop} (hA:Dk k A) (L:Ii Z P B₀ φ₀ F I W 0 σ s B φ) (hi:φ₀[i]? = some a) (h:Gp F.sc target test restM ds σ=some σ')
  (q:∀B' φ' s',Bm Z P B' φ' F σ' s'→Bj P B₀ B' φ₀ φ'→R (.ok .next) s'):codeAny Z.M A (.compLoop (.ListComp elt gens scope pos) depth (.ref I) (.ref a) F.env) R s:=by
 refine O9 (target:=target) (iter:=iter) (ifs:=ifs) (rest:=rest) (λn s=>∃(i:Nat) (σi:St) (B':Aa) (φ':List Addr),n+i=ds.length∧Ii Z P B₀ φ₀ F I W i σi s B' φ'∧Gp F.sc target test restM (ds.drop i) σi=some σ') hc ?_ ds.length
  ⟨0,_,B,φ,rfl,L,h⟩
 intro n s₃ w1
 refine Wx w1 λj σi B₃ φ₃ hn L hf=>?_
 clear w1
 refine E3 L.obj λo nm vs r hI hcl hd hne=>?_
 have hno:∀v,o.data≠.cell v:=λv e=>by rw[hd]at e;exact nomatch e
 have wr:∀{h':Heap},(∀b oo,b∉[I]→s₃.heap.get? b=some oo→h'.get? b=some oo)→∀b oo,b≠I→s₃.heap.get? b=some oo→h'.get? b=some oo:=λhk b oo e=>hk b oo (by simpa using e)
 by_cases hlt:j < ds.length
 ·refine(W.walk A hA.hd).item j s₃ _ _ hlt L.st λv h' tk hv st' hk=>?_
  refine Ar (W.ex _ _ st') λo' nm' vs' hI' hc' hd' hne'=>?_
  refine Aj (W.rep j v hv) λd hd0 hrep=>?_
  have hdr:ds.drop j=d::ds.drop (j+1):=by
   have:ds[j]=d:=by rw[List.getElem?_eq_getElem hlt]at hd0;exact Option.some.inj hd0
   rw[drop_eq_getElem_cons hlt,this]
  rw[hdr]at hf
  refine Ay hf λσa hbt hf=>?_
  refine Ay hf λw htest hf=>?_
  obtain⟨ok,σb⟩:=w
  have r':=r.reput (o':=o') (tk:=tk) L.pI L.bI hno (wr hk) hI'
  refine Z5 hI' hc' hd' hne' ?_
  refine R3 hA.hd r' hbt (hrep.mono L.le) λs₄ x₄=>?_
  have st4:W.St (j+1) s₄.heap:=(W.walk A hA.hd).frame _ _ _ st' λb hb' oo e=>by
   rcases W.fpB b hb' with rfl | ⟨ob,hob⟩
   ·have e':h'.get? b=some oo:=e
    rw[hI']at e';refine Gc e' ?_
    exact x₄.toH.base.prot _ _ (Azk _ _ _)
   ·have h1:h'.get? b=some ob:=r'.toH.base.sub _ _ (L.le _ _ hob)
    have e':h'.get? b=some oo:=e
    rw[h1]at e';refine Gc e' ?_
    exact x₄.toH.base.sub _ _ (L.le _ _ hob)
  have L4:Ii Z P B₀ φ₀ F I W (j+1) σa s₄ B₃ φ₃:=⟨⟨o',x₄⟩,L.mono,L.le,L.pI,L.bI,st4⟩
  have hI4:s₄.heap.get? I=some o':=x₄.toH.base.prot _ _ (Azk _ _ _)
  have hno':∀v,o'.data≠.cell v:=λv e=>by rw[hd']at e;exact nomatch e
  refine ht _ _ _ htest A (P.put I o') B₃ φ₃ s₄ _ _ hA x₄ λB₅ φ₅ s₅ b x₅ m₅ e₅=>?_
  have e₅:b=ok:=e₅
  subst e₅
  have L5:=L4.after hI4 x₅ m₅
  induction b with
  | false=>
   exact⟨n - 1,by lia,j+1,σb,B₅,φ₅,by lia,L5,hf⟩
  | true=>
   refine Ay hf λσc hrest hf=>?_
   have hI5:s₅.heap.get? I=some o':=x₅.toH.base.prot _ _ (Azk _ _ _)
   refine hr _ _ hrest A (P.put I o') B₅ φ₅ s₅ _ _ hA x₅ (L5.mono.pre _ _ hi) λB₆ φ₆ s₆ x₆ m₆=>?_
   exact⟨n - 1,by lia,j+1,σc,B₆,φ₆,by lia,L5.after hI5 x₆ m₆,hf⟩
 ·have hi':j=ds.length:=by lia
  rw[hi',drop_length]at hf
  cases hf
  refine(W.walk A hA.hd).done s₃ _ _ (hi'▸L.st) λh' tk hk=>?_
  exact q B₃ φ₃ _ (r.gone L.pI L.bI hno (wr hk)) L.mono
set_option tactic.hygienic true in
theorem Aa6(he:∀σ v σ',r.e F.sc elt σ=some (v,σ')→EV Z k F elt σ v σ')(h:Hs r F.sc elt i σ=some σ₁):
  JA Z k F i a (do let _ ←call (.builtin "list.append") [.ref a,←eval elt F.env]) σ σ₁:=by
 intro A P B φ s Q E hA x hi q
 refine Ay h λw h1 h=>?_
 obtain⟨v,σa⟩:=w
 refine Ay h λw h2 h=>?_
 obtain⟨d,cel⟩:=w
 split at h
 ·rename_i xs hxs
  split at h
  ·rename_i hf
   obtain rfl:=Option.some.inj h
   refine wpAny_bind (he _ _ _ h1 A P B φ s _ E hA x λB₁ φ₁ s₁ cv x₁ m₁ e₁=>?_)
   refine D7 (Pn (loc:=σa.loc) (cel:=σa.cel) x₁ h2 e₁) λB₂ x₂ m₂ r₂=>?_
   refine Ar (x₂.toH.cells.at_ i xs hxs) λa' vs n q1 q2 q3 q4=>?_
   have ha:=m₁.pre _ _ hi
   rw[ha]at q1;cases q1
   have hsz:vs.size≤sizeLine:=by
    have:=q4.length
    dsimp only[length_toList]at this
    rw[this]
    exact le_of_succ_le (C7 hf)
   refine wpAny_bind (My q3 (λh' n' hl' hs'=>wpAny_pure ?_) hsz)
   have y:=x₂.setCell (tk:=s₁.toks) hxs ha (ys:=xs++[d]) hs' hl' (by rw[toList_push];exact q4.snoc r₂)
   exact q _ _ _ y (m₁.trans m₂)
  ·exact Am h
 ·exact Am h
end
noncomputable def Hy(env:Env):List (Str×NameKind)→List (Str×Addr)→List (Str×Addr)
 | [],cs=>cs
 | (n,k)::r,cs=>if k == .free then Hy env r ((n,(env.cells.lookup n).getD 0)::cs)else Hy env r cs
theorem Uu(h:∀x∈sc.names,x.2 = .free→∃c,env.cells.lookup x.1=some c):closureFor sc env=pure (Hy env sc.names []):=by
 have key:∀(l:List (Str×NameKind)) (cs:List (Str×Addr)),(∀x∈l,x.2 = .free→∃c,env.cells.lookup x.1=some c)→
   (forIn l cs fun(x:Str×NameKind) cs=>if(x.2 == .free)=true then do let c ←cellOf env x.1;pure (ForInStep.yield ((x.1,c)::cs))else pure (ForInStep.yield cs))=(pure (Hy env l cs):Sem _):=by
  intro l
  induction l with
  | nil=>intro cs _;rfl
  | cons x l ih=>
   intro cs hl
   rw[forIn_cons]
   obtain⟨n,kd⟩:=x
   by_cases hk:(kd == .free)=true
   ·refine xe (hl (n,kd) (mem_cons_self ..) (eq_of_beq hk)) λc hc=>?_
    have hc:env.cells.lookup n=some c:=hc
    simp only[hk,if_true,Hy,hc,getD_some]
    show(cellOf env n >>= λc=>pure (ForInStep.yield ((n,c)::cs))) >>= _=_
    have:cellOf env n=pure c:=by unfold cellOf;rw[hc]
    rw[this]
    exact ih ((n,c)::cs) λx hx=>hl x (mem_cons_of_mem _ hx)
   ·simp only[hk,if_false,Hy,Bool.false_eq_true]
    exact ih cs λx hx=>hl x (mem_cons_of_mem _ hx)
 have:=key sc.names [] h
 exact(congrArg (fun(t:Sem (List (Str×Addr)))=>t >>= pure) this).trans rfl
theorem D0:∀{l:List (Str×NameKind)} {cs:List (Str×Addr)},(∀x∈l,x.2 = .free→∃c,env.cells.lookup x.1=some c)→(∀x c,cs.lookup x=some c→env.cells.lookup x=some c)→
  ∀x c,(Hy env l cs).lookup x=some c→env.cells.lookup x=some c
 | [],_,_,h,x,c,e=>h x c e
 | (n,kd)::l,cs,hl,h,x,c,e=>by
  dsimp only[Hy]at e
  split at e
  ·rename_i hk
   refine D0 (λx hx=>hl x (mem_cons_of_mem _ hx)) (λy d e'=>?_) x c e
   dsimp only[List.lookup]at e'
   split at e'
   ·rename_i hy
    have:=eq_of_beq hy
    subst this
    refine xe (hl (y,kd) (mem_cons_self ..) (eq_of_beq hk)) λc' hc'=>?_
    have hc':env.cells.lookup y=some c':=hc'
    rw[hc']at e'⊢
    simpa using e'
   ·exact h y d e'
  ·exact D0 (λx hx=>hl x (mem_cons_of_mem _ hx)) h x c e
theorem Hi:∀{l:List (Str×NameKind)} {cs:List (Str×Addr)} {x:Str},((x,.free)∈l∨(cs.lookup x).isSome=true)→((Hy env l cs).lookup x).isSome=true
 | [],_,_,h=>h.elim (λh=>by cases h) id
 | (n,kd)::l,cs,x,h=>by
  dsimp only[Hy]
  split
  ·rename_i hk
   refine Hi ?_
   rcases h with h | h
   ·rcases mem_cons.mp h with h | h
    ·refine Cp h ?_
     refine .inr ?_
     simp[List.lookup]
    ·exact .inl h
   ·refine .inr ?_
    dsimp only[List.lookup]
    split
    ·rfl
    ·exact h
  ·rename_i hk
   refine Hi ?_
   rcases h with h | h
   ·rcases mem_cons.mp h with h | h
    ·cases h
     exact absurd (by rfl) hk
    ·exact .inl h
   ·exact .inr h
section
variable {Z:Bz} {k:Nat} {F:Fi} {σ σ₁ σ₂ σ₃:St}
theorem Bm.putOld(x:Bm Z P B φ F σ s)(hC:s.heap.get? C=some o)(hL:C≠F.L)(hno:∀v,o.data≠.cell v)(hl:∀vs n,o≠Bp vs n)(hP:P C=none):
  Bm Z (P.put C o) B φ F σ s:=by
 have pe:∀{a:Addr},a≠C→P a=none→P.put C o a=none:=fun{a} h e=>by rw[Azl P _ h];exact e
 refine⟨⟨⟨x.toH.base.same,x.toH.base.old,x.toH.base.sub,λb oo e=>?_⟩,⟨x.toH.cells.len,x.toH.cells.ex,λi xs e=>?_,x.toH.cells.fz,x.toH.cells.nod⟩⟩,⟨x.frame.bL,pe (Ne.symm hL) x.frame.pL,x.frame.ns,λy c e1 e2=>?_,x.frame.ll⟩⟩
 ·by_cases z:b=C
  ·subst z;rw[Azk]at e;refine Gc e ?_;exact hC
  ·rw[Azl P _ z]at e;exact x.toH.base.prot b oo e
 ·refine Ar (x.toH.cells.at_ i xs e) λa vs n r1 r2 r3 r4=>?_
  refine⟨a,vs,n,r1,⟨r2.1,pe ?_ r2.2⟩,r3,r4⟩
  rintro rfl
  rw[hC]at r3;obtain rfl:=Option.some.inj r3
  exact hl _ _ rfl
 ·refine Fk (x.frame.cl y c e1 e2) λr1 v oo r2 r3=>?_
  have hc:c≠C:=by
   rintro rfl
   rw[hC]at r2;obtain rfl:=Option.some.inj r2
   exact hno _ r3
  refine⟨r1.imp (λr1=>⟨r1.1,r1.2.1,pe hc r1.2.2⟩) λr1=>⟨r1.1,r1.2.imp λo₁ h=>?_⟩,v,oo,r2,r3⟩
  rw[Azl P _ hc];exact h
theorem Adi{I:Addr}(e:¬(I=F.L∨(∃y,F.env.kindOf y=some .cell∧¬F.bor y∧F.env.cells.lookup y=some I))):F.keep h (P.put I o)=(F.keep h P).put I o:=by
 funext b
 by_cases z:b=I
 ·subst z
  rw[Bt e,Azk,Azk]
 ·rw[Azl _ _ z]
  by_cases q:b=F.L∨(∃y,F.env.kindOf y=some .cell∧¬F.bor y∧F.env.cells.lookup y=some b)
  ·rw[Go q,Go q]
  ·rw[Bt q,Bt q,Azl _ _ z]
theorem Dd{env:Env}(hf:env.scope.kind = .function):∀{names:List (Str×NameKind)} {x:Str},
  (names.map fun(n,k)=>if(k==NameKind.free&&env.scope.kind == .function&&env.kindOf n==some .cell)then(n,NameKind.cell)else(n,k)).lookup x=names.lookup x∨
  (names.lookup x=some .free∧(names.map fun(n,k)=>if(k==NameKind.free&&env.scope.kind == .function&&env.kindOf n==some .cell)then(n,NameKind.cell)else(n,k)).lookup x=some .cell)
 | [],_=>.inl rfl
 | (n,kd)::r,x=>by
  have ih:=@Dd env hf r x
  show List.lookup x ((if(kd==NameKind.free&&env.scope.kind == .function&&env.kindOf n==some .cell)=true then(n,NameKind.cell)else(n,kd))::_)=_∨(_∧List.lookup x ((if(kd==NameKind.free&&env.scope.kind == .function&&env.kindOf n==some .cell)=true then(n,NameKind.cell)else(n,kd))::_)=_)
  cases hx:x==n with
  | true=>
   by_cases hc:(kd==NameKind.free&&env.scope.kind == .function&&env.kindOf n==some .cell)=true
   ·rw[if_pos hc]
    simp only[Bool.and_eq_true]at hc
    have:=eq_of_beq hc.1.1
    subst this
    exact .inr ⟨by simp[lookup_cons,hx],by simp[lookup_cons,hx]⟩
   ·rw[if_neg hc]
    exact .inl (by simp[lookup_cons,hx])
  | false=>
   have e1:List.lookup x ((if(kd==NameKind.free&&env.scope.kind == .function&&env.kindOf n==some .cell)=true then(n,NameKind.cell)else(n,kd))::(r.map fun(n,k)=>if(k==NameKind.free&&env.scope.kind == .function&&env.kindOf n==some .cell)then(n,NameKind.cell)else(n,k)))=(r.map fun(n,k)=>if(k==NameKind.free&&env.scope.kind == .function&&env.kindOf n==some .cell)then(n,NameKind.cell)else(n,k)).lookup x:=by
    by_cases hc:(kd==NameKind.free&&env.scope.kind == .function&&env.kindOf n==some .cell)=true
    ·rw[if_pos hc];simp only[lookup_cons,hx]
    ·rw[if_neg hc];simp only[lookup_cons,hx]
   have e2:List.lookup x ((n,kd)::r)=r.lookup x:=by simp only[lookup_cons,hx]
   rw[e1,e2]
   exact ih
theorem C3:(relabel sc env).names.map (·.1)=sc.names.map (·.1):=by
 delta relabel
 simp only[map_map]
 refine map_congr_left λx _=>?_
 obtain⟨n,kd⟩:=x
 dsimp only[Function.comp]
 split<;>rfl
end
theorem Ee{env:Env}(hf:env.scope.kind = .function):∀{names:List (Str×NameKind)} {x:Str},names.lookup x=some .free→env.kindOf x=some .cell→
  (names.map fun(n,k)=>if(k==NameKind.free&&env.scope.kind == .function&&env.kindOf n==some .cell)then(n,NameKind.cell)else(n,k)).lookup x=some .cell
 | [],_,h,_=>by exact Am h
 | (n,kd)::r,x,h,hx=>by
  have ih:=@Ee env hf r x
  show List.lookup x ((if(kd==NameKind.free&&env.scope.kind == .function&&env.kindOf n==some .cell)=true then(n,NameKind.cell)else(n,kd))::_)=_
  cases hn:x==n with
  | true=>
   simp only[lookup_cons,hn]at h
   refine spr h ?_
   have:=eq_of_beq hn
   subst this
   rw[if_pos (by rw[hf,hx];rfl)]
   simp[lookup_cons]
  | false=>
   simp only[lookup_cons,hn]at h
   by_cases hc:(kd==NameKind.free&&env.scope.kind == .function&&env.kindOf n==some .cell)=true
   ·rw[if_pos hc];simp only[lookup_cons,hn];exact ih h hx
   ·rw[if_neg hc];simp only[lookup_cons,hn];exact ih h hx
structure Hx(sc sc':Scope):Prop where
 nod:(sc'.names.map (·.1)).Nodup
 kind:sc'.kind = .function
 cell:∀p∈sc'.names,p.2≠.cell
 dbg:∀p∈sc'.names,(p.1==("__debug__" : Str))=false
 free:∀p∈sc'.names,p.2 = .free→sc.names.lookup p.1=some .cell
theorem He(h:Ex sc sc'=true):Hx sc sc':=by
 unfold Ex at h
 rw[Bool.and_eq_true,Bool.and_eq_true,all_eq_true]at h
 refine xa h λw h3=>?_
 clear h
 refine xa w λh1 h2=>?_
 clear w
 have h4:∀p∈sc'.names,p.2≠.cell∧(p.1==("__debug__" : Str))=false∧(p.2 = .free→sc.names.lookup p.1=some .cell):=λp hp=>by
  have:=h3 p hp
  rw[Bool.and_eq_true,Bool.and_eq_true,Bool.or_eq_true]at this
  refine xa this λw c=>?_
  clear this
  refine xa w λa b=>?_
  clear w
  refine⟨by simpa using a,by simpa using b,λe=>?_⟩
  rcases c with c | c
  ·rw[e]at c;exact Ff c
  ·exact eq_of_beq c
 exact⟨of_decide_eq_true h1,eq_of_beq h2,λp hp=>(h4 p hp).1,λp hp=>(h4 p hp).2.1,λp hp=>(h4 p hp).2.2⟩
theorem Fd:∀{l:List (Str×NameKind)} {x:Str×NameKind},(l.map (·.1)).Nodup→x∈l→l.lookup x.1=some x.2
 | [],_,_,h=>by exact nomatch h
 | (n,kd)::l,x,hn,h=>by
  rw[map_cons,nodup_cons]at hn
  rcases mem_cons.mp h with rfl | h
  ·simp[lookup_cons]
  ·have:(x.1==n)=false:=by
    cases e:x.1==n with
    | false=>rfl
    | true=>
     have e':=eq_of_beq e
     exact absurd (e'▸mem_map_of_mem (f:=(·.1)) h) hn.1
   simp only[lookup_cons,this]
   exact Fd hn.2 h
section
variable {Z:Bz} {k:Nat} {F:Fi} {σ σ₁ σ₂ σ₃:St}
theorem Hx.cells(h:Hx F.sc sc):∀x∈sc.names,x.2 = .free→∃c,F.env.cells.lookup x.1=some c:=λx hx e=>
 F.has x.1 (Fi.kind (h.free x hx e) (by decide))
noncomputable def Aj4(F:Fi)(sc:Scope)(h:Hx F.sc sc)(C:Addr):Fi where
 env:=compEnvC sc (Hy F.env sc.names []) C F.env
 fun_:=h.kind
 glob:=F.glob
 blt:=F.blt
 nod:=by
  show((relabel sc F.env).names.map (·.1)).Nodup
  rw[C3];exact h.nod
 dbg:=λx hx _=>by
  have hx:x∈(relabel sc F.env).names.map (·.1):=hx
  rw[C3]at hx
  refine Aj (mem_map.mp hx) λp hp z=>?_
  subst z
  exact h.dbg p hp
 apart:=λx y c h1 h2=>F.apart x y c (D0 h.cells (λ_ _ e=>by exact Am e) x c h1) (D0 h.cells (λ_ _ e=>by exact Am e) y c h2)
 bor:=λy=>sc.names.lookup y=some .free
 ms:=sc
 msn:=C3.symm
 msk:=λy=>(Dd F.fun_ (names:=sc.names) (x:=y)).imp Eq.symm id
 msb:=λy h=>h
 has:=λy e=>by
  have e:(relabel sc F.env).names.lookup y=some .cell:=e
  have hs:((Hy F.env sc.names []).lookup y).isSome=true:=by
   refine Hi (.inl ?_)
   rcases Dd F.fun_ (names:=sc.names) (x:=y)with q | ⟨q,_⟩
   ·have:sc.names.lookup y=some .cell:=q.symm.trans e
    exact absurd rfl (h.cell _ (Av this))
   ·exact Av q
  exact isSome_iff_exists.mp hs
theorem No(hok:Hx F.sc sc)(ha:g.is_async=0)
  (hit:EV Z k F g.iter σ v σ₁) (hi:Ai σ₁.cel v=some (ds,cel')) (hs:∀x,foldedSetIterable g.iter F.env x=pure x)
  (loop:∀F':Fi,F'.sc=sc→∀{A:Around} {P B₀ B:Aa} {φ₀ φ:List Addr} {s:Shared} {R:Result→Shared→Prop} {I a:Addr} {BW:Aa} (W:It Z I ds BW),Dk k A→
   Ii Z P B₀ φ₀ F' I W 0 ⟨Cq F.sc sc σ₁.loc,cel'++[.m []]⟩ s B φ→φ₀[cel'.length]? = some a→
   (∀B' φ' s',Bm Z P B' φ' F' σ' s'→Bj P B₀ B' φ₀ φ'→R (.ok .next) s')→codeAny Z.M A (.compLoop (.ListComp elt (g::gens) sc pos) 0 (.ref I) (.ref a) F'.env) R s) {Q E:Value→Shared→Prop} {use:Option (Value→Sem Unit)} (hA:Dk k A) (x:Bm Z P B φ F σ s)
  (fin:∀B' φ' s' C o a,Bm Z (P.put C o) B' φ' F ⟨σ₁.loc,σ'.cel⟩ s'→Bj P B B' φ φ'→P C=none→B' C=none→(∀v,o.data≠.cell v)→(∃m,s'.heap.Ns C m)→φ'[cel'.length]? = some a→compPost Z.M A E use Q (.ref a) C (.ok .next) s'):
  wpAny Z.M A (comprehension (.ListComp elt (g::gens) sc pos) sc F.env ppos (newList []) false (eval g.iter F.env) use) Q E s:=by
 refine wpAny_comprehension_free (cl:=Hy F.env sc.names []) rfl hs (Uu hok.cells) hok.kind (λy hy e=>e▸Fd hok.nod hy) (hit A P B φ s _ E hA x λB₁ φ₁ s₁ cv x₁ m₁ e₁=>?_)
 refine Pw (loc:=σ₁.loc) (cel:=σ₁.cel) x₁ hi e₁ λB₂ I o s₂ W x₂ m₂ pI bI st=>?_
 refine wpAny_newList ?_
 refine Pb (Io x₂ (vs := #[]) (n:=0) (xs:=[]) Reps.nil s₂.toks) λx₃ m₃ va=>?_
 refine Aj va λa ha' va=>?_
 generalize hs3:({s₂ with heap:=s₂.heap.push {cls:=.type "list",data:=.seq ([]:List Value).toArray}}:Shared)=s₃
 have x₃:Bm Z (P.put I o) B₂ (φ₁++[s₂.heap.objs.size]) F ⟨σ₁.loc,cel'++[.m []]⟩ s₃:=hs3▸x₃
 have keep3:Bo s₂.heap s₃.heap:=by rw[←hs3];exact Bo.push _ _
 have hlen:φ₁.length=cel'.length:=x₂.toH.cells.len
 have hidx:(φ₁++[s₂.heap.objs.size])[cel'.length]? = some s₂.heap.objs.size:=by rw[←hlen];simp
 generalize hφ3:φ₁++[s₂.heap.objs.size]=φ₃ at x₃ m₃ hidx
 refine wpAny_newFunctionEnv hok.cell (by intro y hy;simp at hy) (λh₁ hns hsb=>?_) hok.kind
 have hfresh:s₃.heap.get? s₃.heap.objs.size=none:=B0 (le_refl _)
 have kp:Bo s₃.heap h₁:=λb oo e=>hsb.extBut b oo (λz=>lt_irrefl _ (z▸Heap.lt_size e)) (Heap.get?_push_of_some _ e)
 generalize hC:s₃.heap.objs.size=C at hns hfresh
 have x₄:Bm Z (P.put I o) B₂ φ₃ F ⟨σ₁.loc,cel'++[.m []]⟩ {s₃ with heap:=h₁,toks:=s₃.toks+([]:List (Str×Value)).length}:=x₃.keep kp
 generalize hs4:({s₃ with heap:=h₁,toks:=s₃.toks+([]:List (Str×Value)).length}:Shared)=s₄ at x₄
 have h14:s₄.heap=h₁:=by rw[←hs4]
 have hI:s₄.heap.get? I=some o:=x₄.toH.base.prot _ _ (Azk _ _ _)
 have hBC:B₂ C=none:=x₃.toH.base.sub.none hfresh
 have hPC':(P.put I o) C=none:=x₃.toH.base.prot.none hfresh
 have hCI:C≠I:=by rintro rfl;rw[Azk]at hPC';exact nso hPC'
 have hPC:P C=none:=by rw[Azl P _ hCI]at hPC';exact hPC'
 have notOwn:∀{b:Addr},s₃.heap.get? b=none→¬(b=F.L∨(∃y,F.env.kindOf y=some .cell∧¬F.bor y∧F.env.cells.lookup y=some b)):=fun{b} h q=>by
  refine Ab3 (x₃.own q) λ_ _ oo h1 _=>?_
  rw[h]at h1;exact Am h1
 have notOwnI:¬(I=F.L∨(∃y,F.env.kindOf y=some .cell∧¬F.bor y∧F.env.cells.lookup y=some I)):=λq=>by
  refine Pb (x₄.own q) λ_ h1 _=>?_
  rw[Azk]at h1;exact nso h1
 have hCL:C≠F.L:=λz=>notOwn hfresh (.inl z)
 have kpe:=Adi (F:=F) (h:=s₄.heap) (P:=P) (I:=I) (o:=o) notOwnI
 have lent:=x₄.lend
 rw[kpe]at lent
 have hnsC:s₄.heap.Ns C λx=>([]:List (Str×Value)).reverse.lookup x:=by rw[h14];exact hns
 let F':Fi:=Aj4 F sc hok C
 have hk':∀y,F'.env.kindOf y=(relabel sc F.env).names.lookup y:=λ_=>rfl
 have inn:∀(i:Nat) y u,F'.names[i]? = some y→(Cq F.sc sc σ₁.loc)[i]? = some (some u)→∃cv,I4 B₂ F' s₄.heap (λx=>([]:List (Str×Value)).reverse.lookup x) y cv∧VR Z B₂ φ₃ u cv:=by
  intro i y u e1 e2
  have e1':(sc.names.map (·.1))[i]? = some y:=by
   have:((relabel sc F.env).names.map (·.1))[i]? = some y:=e1
   rwa [C3]at this
  unfold Cq at e2
  rw[getElem?_map]at e1' e2
  refine Ch e1' λw1 hp hpn=>?_
  clear e1'
  obtain⟨n,kd⟩:=w1
  have hpn:n=y:=hpn
  subst hpn
  rw[hp]at e2
  have hmem:=mem_of_getElem? hp
  induction kd with
  | free=>
   simp only[map_some,Option.some.injEq]at e2
   refine Ay e2 λj hj hj2=>?_
   clear e2
   have hj3:σ₁.loc[j]? = some (some u):=by
    cases hq:σ₁.loc[j]? with
    | none=>rw[hq]at hj2;exact Am hj2
    | some q=>rw[hq]at hj2;exact congrArg some hj2
   have hcell:=Fi.kind (hok.free _ hmem rfl) (by decide)
   have hnj:F.names[j]? = some n:=by
    have:=T5 hj
    rwa [show F.sc.names.map (·.1)=F.names from F.msn]at this
   refine Aj x₄.frame.ns λm hn hsl=>?_
   refine Aj (hsl j n u hnj hj3) λcv sl vr=>?_
   refine⟨cv,.inr (.inl ⟨?_,?_⟩),vr⟩
   ·rw[hk']
    exact Ee F.fun_ (Fd hok.nod hmem) hcell
   ·rcases sl with⟨s1,_⟩ | ⟨s1,c,s2,s3⟩ | ⟨s1,_⟩
    ·have s1:F.env.kindOf n=some .local:=s1
     rw[hcell]at s1;exact nomatch s1
    ·have hs:((Hy F.env sc.names []).lookup n).isSome=true:=Hi (.inl hmem)
     refine xe (isSome_iff_exists.mp hs) λc' hc'=>?_
     have:=D0 hok.cells (λ_ _ e=>by exact Am e) n c' hc'
     rw[s2]at this;obtain rfl:=Option.some.inj this
     exact⟨c,hc',s3⟩
    ·have s1:F.env.kindOf n=some .free:=s1
     rw[hcell]at s1;exact nomatch s1
  | _=>simp at e2
 have hcl:∀y c,F'.env.kindOf y=some .cell→F'.env.cells.lookup y=some c→((¬F'.bor y∧B₂ c=none∧((F.keep s₄.heap P).put I o) c=none)∨(F'.bor y∧∃o',((F.keep s₄.heap P).put I o) c=some o'))∧∃v,s₄.heap.IsCell c v:=by
  intro y c e1 e2
  have hfree:sc.names.lookup y=some .free:=by
   rcases Dd F.fun_ (names:=sc.names) (x:=y)with q | ⟨q,_⟩
   ·have:sc.names.lookup y=some .cell:=q.symm.trans e1
    exact absurd rfl (hok.cell _ (Av this))
   ·exact q
  have hcell:F.env.kindOf y=some .cell:=Fi.kind (hok.free _ (Av hfree) rfl) (by decide)
  have hlk:F.env.cells.lookup y=some c:=D0 hok.cells (λ_ _ e=>by exact Am e) y c e2
  refine Fk (x₄.frame.cl y c hcell hlk) λr1 w oo r2 r3=>?_
  refine⟨.inr ⟨hfree,?_⟩,w,oo,r2,r3⟩
  rw[←kpe]
  by_cases q:c=F.L∨(∃y,F.env.kindOf y=some .cell∧¬F.bor y∧F.env.cells.lookup y=some c)
  ·rw[Go q];exact⟨oo,r2⟩
  ·rw[Bt q]
   rcases r1 with⟨h0,_⟩ | ⟨_,h⟩
   ·exact absurd (.inr ⟨y,hcell,h0,hlk⟩) q
   ·exact h
 have pL':((F.keep s₄.heap P).put I o) C=none:=by
  rw[Azl _ _ hCI,Bt (notOwn hfresh)];exact hPC
 have xi:Bm Z ((F.keep s₄.heap P).put I o) B₂ φ₃ F' ⟨Cq F.sc sc σ₁.loc,cel'++[.m []]⟩ s₄:=
  ⟨lent,⟨hBC,pL',⟨_,hnsC,inn⟩,hcl,by
   show(Cq F.sc sc σ₁.loc).length=((relabel sc F.env).names.map (·.1)).length
   rw[C3];simp[Cq]⟩⟩
 have keep24:Bo s₂.heap s₄.heap:=by rw[h14];exact keep3.trans kp
 have pI':F.keep s₄.heap P I=none:=by rw[Bt notOwnI];exact pI
 have L:Ii Z (F.keep s₄.heap P) B₂ φ₃ F' I W 0 ⟨Cq F.sc sc σ₁.loc,cel'++[.m []]⟩ s₄ B₂ φ₃:=
  ⟨⟨o,xi⟩,.refl _ _,.refl _,pI',bI,(W.walk A hA.hd).frame _ _ _ st λb _ oo e=>keep24 b oo e⟩
 have lp:codeAny Z.M A (.compLoop (.ListComp elt (g::gens) sc pos) 0 (.ref I) (.ref s₂.heap.objs.size) F'.env) (compPost Z.M A E use Q (.ref s₂.heap.objs.size) C) s₄:=by
  refine loop F' rfl W hA L hidx λB' φ' s' xr m=>?_
  refine E3 L.obj λo' nm' vs' r' hI' hc' hd' hne'=>?_
  rw[hI]at hI';obtain rfl:=Option.some.inj hI'
  have x₅:=x₄.unput pI λv e=>by rw[hd']at e;exact nomatch e
  refine xa (x₅.back xr.toH m) λy1 y2=>?_
  refine Aj xr.frame.ns λmm hn' _=>?_
  have hn':s'.heap.Ns C mm:=hn'
  refine Au (id hn') λoC es ep h1 h2 h3=>?_
  refine fin B' φ' s' C oC _ (y1.putOld h1 hCL (λv e=>by rw[e]at h2;exact nomatch h2) (λvs n e=>by rw[e]at h2;exact nomatch h2) hPC) ?_ hPC xr.frame.bL (λv e=>by rw[e]at h2;exact nomatch h2) ⟨mm,hn'⟩ (m.pre _ _ hidx)
  exact((m₁.trans (m₂.trans (m₃.unput pI))).trans y2)
 have e5:F'.env={newEnv sc C F.env.globals (Hy F.env sc.names []) F.env.qual none .none (some F.env) builtinsNs with scope:=relabel sc F.env}:=rfl
 rw[e5]at lp
 exact Hr rfl ha lp ((W.walk A hA.hd).self 0 _ _ _ L.st lp)
end
section
variable {Z:Bz} {k:Nat} {F:Fi} {σ σ₁ σ₂ σ₃:St}
noncomputable abbrev Pl(Z:Bz)(k:Nat)(F:Fi)(elt:Expr)(gens:List Comprehension)(sc:Scope)(pos:Pos)(ds:List D)(σ₀:St)(i:Nat)(σ':St):Prop:=
 ∀F':Fi,F'.sc=sc→∀{A:Around} {P B₀ B:Aa} {φ₀ φ:List Addr} {s:Shared} {R:Result→Shared→Prop} {I a:Addr} {BW:Aa} (W:It Z I ds BW),Dk k A→
   Ii Z P B₀ φ₀ F' I W 0 σ₀ s B φ→φ₀[i]? = some a→
   (∀B' φ' s',Bm Z P B' φ' F' σ' s'→Bj P B₀ B' φ₀ φ'→R (.ok .next) s')→codeAny Z.M A (.compLoop (.ListComp elt gens sc pos) 0 (.ref I) (.ref a) F'.env) R s
theorem Oz(hok:Hx F.sc sc)(ha:g.is_async=0)
  (hit:EV Z k F g.iter σ v σ₁) (hi:Ai σ₁.cel v=some (ds,cel')) (hs:∀x,foldedSetIterable g.iter F.env x=pure x)
  (loop:Pl Z k F elt (g::gens) sc pos ds ⟨Cq F.sc sc σ₁.loc,cel'++[.m []]⟩ cel'.length σ'):
  EV Z k F (.ListComp elt (g::gens) sc pos) σ (.cell cel'.length) ⟨σ₁.loc,σ'.cel⟩:=by
 intro A P B φ s Q E hA x q
 obtain⟨gt,gi,gf,gas⟩:=g
 have ha:gas=0:=ha
 subst ha
 rw[eval_ListComp]
 refine No (use:=none) hok rfl hit hi hs loop hA x λB' φ' s' C o a y m hP hB hno hn hidx=>?_
 obtain⟨mm,hn⟩:=hn
 refine⟨mm,hn,λh' hs'=>?_⟩
 exact q B' φ' _ _ (y.gone (tk:=s'.toks) hP hB hno λb oo hb e=>hs'.extBut b oo hb e) m ⟨a,hidx,rfl⟩
theorem Hv(h:EV Z k F e σ v σ₁)(hset:σ₁.setName F.sc y v=some σ₂)
  (hs:swapsWith e (some (.Name y p')) p.line F.env=pure false):EX Z k F (.Assign [.Name y p'] e p) σ .next σ₂:=by
 intro A P B φ s Q E hA x q
 refine wpAny_Assign_Name (h A P B φ s _ E hA x λB₁ φ₁ s₁ cv x₁ m₁ e₁=>?_) hs
 exact E2 x₁ hset e₁ λs' x'=>q B₁ φ₁ s' _ x' m₁ rfl
theorem Gm(hok:Hx F.sc sc)(ha:g.is_async=0)
  (hit:EV Z k F g.iter σ v σ₁) (hi:Ai σ₁.cel v=some (ds,cel')) (hs:∀x,foldedSetIterable g.iter F.env x=pure x)
  (loop:Pl Z k F elt (g::gens) sc pos ds ⟨Cq F.sc sc σ₁.loc,cel'++[.m []]⟩ cel'.length σ') (hset:St.setName ⟨σ₁.loc,σ'.cel⟩ F.sc y (.cell cel'.length)=some σ₂):
  EX Z k F (.Assign [.Name y p'] (.ListComp elt (g::gens) sc pos) p) σ .next σ₂:=by
 have sw:∃b,swapsWith (.ListComp elt (g::gens) sc pos) (some (.Name y p')) p.line F.env=pure b:=⟨_,rfl⟩
 obtain⟨b,sw⟩:=sw
 induction b with
 | false=>exact Hv (Oz hok ha hit hi hs loop) hset sw
 | true=>
  intro A P B φ s Q E hA x q
  obtain⟨gt,gi,gf,gas⟩:=g
  have ha:gas=0:=ha
  subst ha
  rw[exec_Assign_Name_used _ _ _ _ sw]
  refine wpAny_bind (wpAny_standAt (wpAny_bind ?_))
  refine wpAny_bind (wpAny_mono (No (Q:=λ_ s'=>Q .next s') (use:=some (assign (.Name y p') F.env)) hok rfl hit hi hs loop hA x λB' φ' s' C o a z m hP hB hno hn hidx=>?_)
   (λ_ s' hq=>wpAny_pure (wpAny_pure hq)) λ_ _ e=>e)
  obtain⟨mm,hn⟩:=hn
  refine wpAny_assign_Name (E2 z hset ⟨a,hidx,rfl⟩ λs'' z'=>?_)
  have hC:=z.toH.base.prot _ _ (Azk _ _ _)
  refine⟨mm,hn.at' λoo e=>?_,λh' hs'=>?_⟩
  ·rw[hC]at e;refine Gc e ?_
   exact z'.toH.base.prot _ _ (Azk _ _ _)
  ·exact q B' φ' _ _ (z'.gone (tk:=s''.toks) hP hB hno λb oo hb e=>hs'.extBut b oo hb e) m rfl
end
section
variable {Z:Bz} {k:Nat} {F:Fi} {σ σ₁ σ₂ σ₃:St}
theorem Qt(ht:∀t σ b σ',r.t F.sc t σ=some (b,σ')→TV Z k F t σ b σ')(h:Fm r F.sc ifs σ=some (b,σ₁)):
  J Z k F (forIn ifs true λc r=>if r=true then do let ok ←isTrue c F.env (eval c F.env);pure (ForInStep.yield ok)else pure (ForInStep.yield r)) σ (λ_ _ b'=>b'=b) σ₁:=by
 unfold Fm at h
 split at h
 ·refine Bi h ?_
  exact λA P B φ s Q E hA x q=>wpAny_tests_nil (q B φ s _ x (.refl B φ) rfl)
 ·exact λA P B φ s Q E hA x q=>wpAny_tests_one (ht _ _ _ _ h A P B φ s Q E hA x q)
 ·exact Am h
theorem Qk(ha:g.is_async=0)
  (he:∀F:Fi,F.sc=sc→∀e σ v σ',r.e sc e σ=some (v,σ')→EV Z k F e σ v σ') (ht:∀F:Fi,F.sc=sc→∀t σ b σ',r.t sc t σ=some (b,σ')→TV Z k F t σ b σ')
  (h:Cd r sc elt i g.target g.ifs ds σ₀=some σ'):Pl Z k F elt [g] sc pos ds σ₀ i σ':=by
 intro F' hF A P B₀ B φ₀ φ s R I a BW W hA L hi q
 obtain⟨gt,gi,gf,gas⟩:=g
 have ha:gas=0:=ha
 subst ha
 subst hF
 rw[Jb]at h
 exact Jd W (rest:=do let _ ←call (.builtin "list.append") [.ref a,←eval elt F'.env]) (by rfl) (λσ b σ' h=>Qt (ht F' rfl) h) (λσ σ' h=>Aa6 (he F' rfl elt) h) hA L hi h q
theorem Q8(ha:g.is_async=0)(ha':g'.is_async=0)(hf:g.ifs=[])
  (hns:∀F:Fi,F.sc=sc→∀σ v,r.e sc g'.iter σ=some v→∀x,foldedSetIterable g'.iter F.env x=pure x)
  (he:∀F:Fi,F.sc=sc→∀e σ v σ',r.e sc e σ=some (v,σ')→EV Z k F e σ v σ') (ht:∀F:Fi,F.sc=sc→∀t σ b σ',r.t sc t σ=some (b,σ')→TV Z k F t σ b σ')
  (h:Dt r sc elt i g.target g' ds σ₀=some σ'):Pl Z k F elt [g,g'] sc pos ds σ₀ i σ':=by
 intro F' hF A P B₀ B φ₀ φ s R I a BW W hA L hi q
 obtain⟨gt,gi,gf,gas⟩:=g
 have ha:gas=0:=ha
 subst ha
 obtain⟨gt',gi',gf',gas'⟩:=g'
 have ha':gas'=0:=ha'
 subst ha'
 have hf:gf=[]:=hf
 subst hf
 subst hF
 rw[Mt]at h
 refine Jd W (target:=gt) (iter:=gi) (ifs:=[]) (rest:=do
   let x ←eval gi' F'.env
   standAt gi'.pos
   let x ←foldedSetIterable gi' F'.env x
   let _ ←runOwn (.compStart (.ListComp elt [⟨gt,gi,[],0⟩,⟨gt',gi',gf',0⟩] F'.sc pos) 1 (←holding [x] (pyIter x)) (.ref a) F'.env) F'.env) (by
    unfold Tg
    simp only[bind_assoc,pure_bind]
    rfl)
  (λσ b σ' h=>by refine Bi h ?_;exact λA P B φ s Q E hA x q=>wpAny_tests_nil (q B φ s _ x (.refl B φ) rfl)) (λσ σ' h=>?_) hA L hi h q
 intro A P B φ s Q E hA x hi q
 refine Ay h λw h1 h=>?_
 obtain⟨v,σa⟩:=w
 refine Ay h λw h2 h=>?_
 obtain⟨ds',cel'⟩:=w
 refine wpAny_bind (he F' rfl _ _ _ _ h1 A P B φ s _ E hA x λB₁ φ₁ s₁ cv x₁ m₁ e₁=>?_)
 refine wpAny_bind (wpAny_standAt ?_)
 refine wpAny_bind (wpAny_of_eq (hns F' rfl _ _ h1 cv) ?_)
 refine wpAny_bind (wpAny_holding ?_)
 refine Pw (loc:=σa.loc) (cel:=σa.cel) x₁ h2 e₁ λB₂ I₂ o₂ s₂ W₂ x₂ m₂ pI bI st=>?_
 have L₂:Ii Z P B φ F' I₂ W₂ 0 ⟨σa.loc,cel'⟩ s₂ B₂ φ₁:=⟨⟨o₂,x₂⟩,m₁.trans m₂,.refl _,pI,bI,st⟩
 refine wpAny_bind (wpAny_runOwn ?_)
 have lp:codeAny Z.M A (.compLoop (.ListComp elt [⟨gt,gi,[],0⟩,⟨gt',gi',gf',0⟩] F'.sc pos) 1 (.ref I₂) (.ref a) F'.env)
   (λr s'=>match r with | .ok f=>wpAny Z.M A (pure ()) Q E s' | .error e=>cameBackBy Z.M A F'.env E e s') s₂:=by
  rw[Jb]at h
  exact Jd W₂ (rest:=do let _ ←call (.builtin "list.append") [.ref a,←eval elt F'.env]) (by rfl) (λσ b σ' h=>Qt (ht F' rfl) h) (λσ σ' h=>Aa6 (he F' rfl elt) h) hA L₂ hi h
   λB' φ' s' y m=>wpAny_pure (q B' φ' s' y m)
 exact Hr rfl rfl lp ((W₂.walk A hA.hd).self 0 _ _ _ st lp)
end
section
variable {prog:Program} {w:World} {A:Around} {E:Value→Shared→Prop} {s:Shared}
theorem Ajv{l:Addr}{n:Nat}{k:Int}{t:Tok}{Q:Unit→Shared→Prop}(hl:s.heap.get? l=some (Bp vs n))(h0:0≤k)(hfit:k < 2 ^ 63)(hn:k < vs.size)
  (hQ:∀h' n',h'.get? l=some (Bp (vs.setIfInBounds k.toNat v) n')→(∀b o,b≠l→s.heap.get? b=some o→h'.get? b=some o)→Q () {s with heap:=h'}):
  wpAny (model prog w) A (setItem (.ref l) (.int k t) v) Q E s:=by
 have hl':=An hl
 delta setItem
 try with_reducible refine wpAny_holding ?_
 first | refine wpAny_bind (wpAny_pure ?_) | skip
 refine wpAny_bind (wpAny_sequenceKey hl'.typeIs (by decide) ?_)
 refine wpAny_bind (wpAny_callSpecial?_slot (name:=Str.ofString "__setitem__") hl'.typeIs slot_list_setitem
  (wpAny_call_entry slot_list_setitem hl'.typeIs entry_list_setitem ?_ (args_list_setitem _ _ _)))
 show wpAny _ _ (Builtin.List.listSubscript? (.int k t) >>= _) _ _ s
 refine wpAny_bind (wpAny_listSubscript_int (fitsIndex_of h0 hfit) ?_)
 clear hfit
 refine xe (Int.eq_ofNat_of_zero_le h0) λj z=>?_
 subst z
 have hj:j < vs.size:=by lia
 have hx':vs[j]? = some vs[j]:=Array.getElem?_eq_getElem hj
 refine wpAny_bind (wpAny_bind (wpAny_seqItemAt hl rfl (wpAny_pure ?_)))
 rw[hx']
 have key:=PySem.IsL.update hl (·.setIfInBounds j v)
 have hq:=hQ _ _ key λb o hb e=>(Heap.get?_update_other _ _ (Ne.symm hb)).trans e
 refine wpAny_bind (wpAny_setSeqItemAt hl rfl ?_)
 first
  | exact wpAny_bind (wpAny_pure (wpAny_pure ⟨.none,rfl,wpAny_pure hq⟩))
  | exact wpAny_pure ⟨.none,rfl,wpAny_pure hq⟩
theorem Afw(hl:s.heap.get? l=some (Bp vs n))(hb:s.heap.get? b=some (Bp ws m))(hs:s.heap.IsSliceOf sl .none .none .none)
  (hQ:∀h' n',h'.get? l=some (Bp ws n')→(∀b o,b≠l→s.heap.get? b=some o→h'.get? b=some o)→Q () {s with heap:=h'}) (hz:vs.size+ws.size≤sizeLine):
  wpAny (model prog w) A (setItem (.ref l) (.ref sl) (.ref b)) Q E s:=by
 have hl':=An hl
 have hb':=An hb
 refine D7 (id hs) λos hos hcs hds=>?_
 have hTs:s.TypeIs (.ref sl) "slice" := ⟨os,hos,hcs⟩
 delta setItem
 try with_reducible refine wpAny_holding ?_
 first | refine wpAny_bind (wpAny_pure ?_) | skip
 refine wpAny_bind (wpAny_sequenceKey hl'.typeIs (by decide) ?_)
 refine wpAny_bind (wpAny_callSpecial?_slot (name:=Str.ofString "__setitem__") hl'.typeIs slot_list_setitem
  (wpAny_call_entry slot_list_setitem hl'.typeIs entry_list_setitem ?_ (args_list_setitem _ _ _)))
 show wpAny _ _ (Builtin.List.listSubscript? (.ref sl) >>= _) _ _ s
 refine wpAny_bind ?_
 unfold Builtin.List.listSubscript?
 refine wpAny_bind (wpAny_specialOf hTs slice_no_index ?_)
 dsimp only
 refine wpAny_pure ?_
 show wpAny _ _ (typeOf (.ref sl) >>= _) _ _ s
 refine wpAny_bind (wpAny_typeOf hTs ?_)
 rw[if_neg (by decide)]
 rw[listSliceParts_eq]
 refine wpAny_bind (wpAny_bind (wpAny_field hos hds (x:=.none) rfl (wpAny_bind (wpAny_listPart .none ?_))))
 rw[if_neg (by decide)]
 refine wpAny_bind (wpAny_field hos hds (x:=.none) rfl (wpAny_bind (wpAny_listPart .none ?_)))
 refine wpAny_bind (wpAny_field hos hds (x:=.none) rfl (wpAny_bind (wpAny_listPart .none (wpAny_pure ?_))))
 have items:∀{c:Addr} {us:Array Value} {j:Nat} {α:Type} {f:Array Value→Sem α} {Q:α→Shared→Prop},s.heap.get? c=some (Bp us j)→wpAny (model prog w) A.in1 (f us) Q E s→wpAny (model prog w) A.in1 (Builtin.List.listItems (.ref c) >>= f) Q E s:=by
  intro c us j α f Q hc h
  refine wpAny_bind ?_
  unfold Builtin.List.listItems
  exact wpAny_bind (wpAny_seqItems hc rfl (wpAny_pure h))
 have key:=PySem.IsL.update hl (λxs=>xs.extract 0 (0:Int).toNat++ws++xs.extract (max 0 (vs.size:Int)).toNat xs.size)
 have e0:vs.extract 0 (0:Int).toNat++ws++vs.extract (max 0 (vs.size:Int)).toNat vs.size=ws:=by
  have:(max 0 (vs.size:Int)).toNat=vs.size:=by rfl
  rw[this];simp
 have key':∃n',(s.heap.update l (Obj.mapSeq λxs=>xs.extract 0 (0:Int).toNat++ws++xs.extract (max 0 (vs.size:Int)).toNat xs.size)).get? l=some (Bp ws n'):=⟨_,key.trans (by rw[e0])⟩
 refine xe key' λn' key'=>?_
 have hq:=hQ _ _ key' λb o hb e=>(Heap.get?_update_other _ _ (Ne.symm hb)).trans e
 have hlong:¬(Builtin.List.listTooLong (vs.size+ws.size)=true):=by
  unfold Builtin.List.listTooLong
  rw[decide_eq_true_iff]
  exact not_lt.mpr hz
 split
 ·refine items hb ?_
  refine items hl ?_
  have hb3:sliceBounds none none none vs.size=(0,(vs.size:Int),1):=by rfl
  refine wpAny_bind (wpAny_of_eq ((sliceIndices_raw none none none vs.size (by decide)).trans (congrArg pure hb3)) ?_)
  rw[if_pos (show((1:Int)==1)=true from by decide)]
  refine wpAny_bind (wpAny_rule ?_)
  rw[if_neg hlong]
  refine wpAny_bind ?_
  refine wpAny_updateSeq hl rfl ?_ (hz:=by exact le_trans (le_add_right _ _) ‹_›) (_hz':=by rw[e0];lia)
  exact wpAny_bind (wpAny_letGo (wpAny_pure ⟨.none,rfl,wpAny_pure hq⟩))
 ·refine wpAny_bind ?_
  refine wpAny_bind (wpAny_typeOf hb'.typeIs ?_)
  rw[if_pos (by decide)]
  refine wpAny_bind (wpAny_seqItems hb rfl (wpAny_pure ?_))
  refine items hl ?_
  have hb3:sliceBounds none none none vs.size=(0,(vs.size:Int),1):=by rfl
  refine wpAny_bind (wpAny_of_eq ((sliceIndices_raw none none none vs.size (by decide)).trans (congrArg pure hb3)) ?_)
  rw[if_pos (show((1:Int)==1)=true from by decide)]
  refine wpAny_bind (wpAny_rule ?_)
  rw[if_neg hlong]
  refine wpAny_bind ?_
  refine wpAny_updateSeq hl rfl ?_ (hz:=by lia) (_hz':=by rw[e0];lia)
  exact wpAny_bind (wpAny_letGo (wpAny_pure ⟨.none,rfl,wpAny_pure hq⟩))
end
section
variable {Z:Bz} {k:Nat} {F:Fi} {σ σ₁ σ₂ σ₃:St}
theorem Wd(hd:d = .none∨∃i,d = .int i)(h:EV Z k F e σ (.d d) σ₁)(hs:swapsWith e none p.line F.env=pure false):EX Z k F (.Expr e p) σ .next σ₁:=by
 intro A P B φ s Q E hA x q
 refine wpAny_Expr (h A P B φ s _ E hA x λB₁ φ₁ s₁ cv x₁ m₁ e₁=>?_) (by delta interactive;rw[F.fun_];rfl) hs
 rcases hd with rfl | ⟨i,rfl⟩
 ·have:cv = .none:=by simpa [VR,Er]using e₁
  subst this
  exact q B₁ φ₁ s₁ _ x₁ m₁ rfl
 ·refine xe (by simpa [VR,Er]using e₁:∃t,cv = .int i t) λt z=>?_
  subst z
  exact q B₁ φ₁ s₁ _ x₁ m₁ rfl
theorem Alu{c:Nat}{j:Int}{pl:Nat}(he:EV Z k F e σ (.d v) σ₁)(ha:EV Z k F a σ₁ (.cell c) σ₂)(hi:EV Z k F i σ₂ (.d (.int j)) σ₃)
  (hc:σ₃.cel[c]? = some (.m xs)) (hp:Ef j xs.length=some pl) (hs:swapsWith e (some (.Subscript a i p')) p.line F.env=pure false):
  EX Z k F (.Assign [.Subscript a i p'] e p) σ .next ⟨σ₃.loc,σ₃.cel.set c (.m (xs.set pl v))⟩:=by
 intro A P B φ s Q E hA x q
 refine wpAny_Assign_Subscript (he A P B φ s _ E hA x λB₁ φ₁ s₁ cv x₁ m₁ e₁=>ha A P B₁ φ₁ s₁ _ E hA x₁ λB₂ φ₂ s₂ ca x₂ m₂ e₂=>hi A P B₂ φ₂ s₂ _ E hA x₂ λB₃ φ₃ s₃ ci x₃ m₃ e₃=>?_) hs
 refine Aj e₂ λl hl z=>?_
 clear e₂
 subst z
 refine xe (by simpa [VR,Er]using e₃:∃t,ci = .int j t) λt z=>?_
 subst z
 have hl:=m₃.pre _ _ hl
 refine Ar (x₃.toH.cells.at_ c xs hc) λl' vs n q1 q2 q3 q4=>?_
 rw[hl]at q1;obtain rfl:=Option.some.inj q1
 refine Uw (Ly hp) λa1 a2 a3 z=>?_
 subst z
 have hlen:vs.size=xs.length:=by simpa using q4.length
 refine Ajv q3 a1 (by lia) (by lia) λh' n' hl' hk=>?_
 have y:=x₃.setCell (tk:=s₃.toks) hc hl (ys:=xs.set j.toNat v) hk hl' (by rw[toList_setIfInBounds];exact q4.set _ ((VR.mono m₃ (VR.mono m₂ e₁))))
 exact q _ _ _ _ y ((m₁.trans m₂).trans m₃) rfl
theorem Yu(he:EV Z k F e σ (.cell d) σ₁)(ha:EV Z k F a σ₁ (.cell c) σ₂)
  (hd:σ₂.cel[d]? = some cc) (hc:σ₂.cel[c]? = some (.m xs)) (hz:fits (xs.length+cc.items.length)=true) (hs:swapsWith e (some (.Subscript a (.Slice none none none n') p')) p.line F.env=pure false):
  EX Z k F (.Assign [.Subscript a (.Slice none none none n') p'] e p) σ .next ⟨σ₂.loc,σ₂.cel.set c (.m cc.items)⟩:=by
 intro A P B φ s Q E hA x q
 refine wpAny_Assign_Subscript (he A P B φ s _ E hA x λB₁ φ₁ s₁ cv x₁ m₁ e₁=>ha A P B₁ φ₁ s₁ _ E hA x₁ λB₂ φ₂ s₂ ca x₂ m₂ e₂=>?_) hs
 refine wpAny_Slice ?_
 refine wpAny_pure (wpAny_pure (wpAny_pure ?_))
 refine Aj e₂ λl hl z=>?_
 clear e₂
 subst z
 refine Aj e₁ λb hb z=>?_
 clear e₁
 subst z
 have hb:=m₂.pre _ _ hb
 refine Ar (x₂.toH.cells.at_ c xs hc) λl' vs n q1 q2 q3 q4=>?_
 rw[hl]at q1;obtain rfl:=Option.some.inj q1
 have bb:∃ws m,s₂.heap.get? b=some (Bp ws m)∧Reps B₂ cc.items ws.toList:=by
  induction cc with
  | m ys=>
   refine Ar (x₂.toH.cells.at_ d ys hd) λb' ws m r1 _ r3 r4=>?_
   rw[hb]at r1;cases r1
   exact⟨ws,m,r3,r4⟩
  | f ys=>
   refine Au (x₂.toH.cells.fz d ys hd) λb' ws m r1 r3 r4=>?_
   rw[hb]at r1;cases r1
   exact⟨ws,m,x₂.toH.base.sub _ _ r3,r4⟩
 refine Kt bb λws m hbo hbr=>?_
 clear bb
 have kp:=Bo.push s₂.heap {cls:=.type "slice",data:=.fields #[.none,.none,.none]}
 have z1:vs.size=xs.length:=by simpa using q4.length
 have z2:ws.size=cc.items.length:=by simpa using hbr.length
 refine Afw (s:={s₂ with heap:=s₂.heap.push _}) (kp _ _ q3) (kp _ _ hbo) (Heap.IsSliceOf.new ..) (λh' n' hl' hk=>?_) (by rw[z1,z2];exact C7 hz)
 have x₃:=x₂.keep (tk:=s₂.toks) kp
 have y:=x₃.setCell (tk:=s₂.toks) hc hl (ys:=cc.items) hk hl' hbr
 exact q _ _ _ _ y (m₁.trans m₂) rfl
end
section
variable {Z:Bz} {k:Nat} {F:Fi} {σ σ₁ σ₂ σ₃:St}
inductive EVL(Z:Bz)(k:Nat)(F:Fi):List Expr→St→List AV→St→Prop
 | nil {σ:St}:EVL Z k F [] σ [] σ
 | cons {e:Expr} {es:List Expr} {v:AV} {vs:List AV} {σ σ₁ σ₂:St}:EV Z k F e σ v σ₁→EVL Z k F es σ₁ vs σ₂→EVL Z k F (e::es) σ (v::vs) σ₂
theorem EVL.evs(h:EVL Z k F es σ vs σ₁)(hp:C8 es):EVs Z k F es σ vs σ₁:=by
 induction h with
 | nil=>exact Ae4
 | @cons e es v vs σ σ₁ σ₂ h _ ih=>
  refine Zr h (ih λe he=>hp e (mem_cons_of_mem _ he)) ?_
  have h0:=hp e (mem_cons_self ..)
  have h1:=nst h0
  clear h0
  induction e using Expr.casesOn with
  | Starred=>exact J3 h1
  | _=>rfl
theorem EVL.length(h:EVL Z k F es σ vs σ₁):es.length=vs.length:=by
 induction h with
 | nil=>rfl
 | cons _ _ ih=>simp[ih]
theorem Bm.basePut(x:Bm Z P B φ F σ s){D:Addr}(hD:s.heap.get? D=some o)(hB:B D=none)(hP:P D=none)(hL:D≠F.L)(hno:∀v,o.data≠.cell v)(hl:∀vs n,o≠Bp vs n):
  Bm Z P (B.put D o) φ F σ s∧Bj P B (B.put D o) φ φ:=by
 have le:=Azv (o:=o) hB
 refine Aj x.frame.ns λm hn hs=>?_
 refine⟨⟨⟨⟨x.toH.base.same,λa o e=>le _ _ (x.toH.base.old a o e),λb oo e=>?_,x.toH.base.prot⟩,⟨x.toH.cells.len,x.toH.cells.ex,λi xs e=>?_,λi xs e=>?_,x.toH.cells.nod⟩⟩,
  ⟨?_,x.frame.pL,⟨m,hn,λj y v e1 e2=>?_⟩,λy c e1 e2=>?_,x.frame.ll⟩⟩,le,λa oo e=>?_,λ_ _ e=>e⟩
 ·by_cases z:b=D
  ·subst z;rw[Azk]at e;refine Gc e ?_;exact hD
  ·rw[Azl B _ z]at e;exact x.toH.base.sub b oo e
 ·refine Ar (x.toH.cells.at_ i xs e) λa vs n r1 r2 r3 r4=>?_
  have:a≠D:=by
   rintro rfl
   rw[hD]at r3;obtain rfl:=Option.some.inj r3
   exact hl _ _ rfl
  exact⟨a,vs,n,r1,⟨by rw[Azl B _ this];exact r2.1,r2.2⟩,r3,r4.mono le⟩
 ·refine Au (x.toH.cells.fz i xs e) λa vs n r1 r2 r3=>?_
  exact⟨a,vs,n,r1,le _ _ r2,r3.mono le⟩
 ·rw[Azl B _ (Ne.symm hL)];exact x.frame.bL
 ·refine Aj (hs j y v e1 e2) λcv sl v=>?_
  exact⟨cv,sl.grow (Bo.refl _) le,v.up le λ_ _ e=>e⟩
 ·refine Fk (x.frame.cl y c e1 e2) λr1 v oo r2 r3=>?_
  have:c≠D:=by
   rintro rfl
   rw[hD]at r2;obtain rfl:=Option.some.inj r2
   exact hno _ r3
  exact⟨r1.imp (λr1=>⟨r1.1,by rw[Azl B _ this];exact r1.2.1,r1.2.2⟩) id,v,oo,r2,r3⟩
 ·by_cases z:a=D
  ·subst z;exact .inr hP
  ·rw[Azl B _ z]at e;exact .inl e
def Aiu{K:Type}[DecidableEq K](Z:Bz)(knd:KeyKind Z.prog Z.w K)(F:Fi)(e:Option Expr)(x:K):Prop:=
 ∃e',e=some e'∧∀(A:Around) (E Q:Value→Shared→Prop) (s:Shared),(∀v tk,knd.is x v=true→Q v {s with toks:=tk})→wpAny Z.M A (eval e' F.env) Q E s
inductive Ds{K:Type}[DecidableEq K](Z:Bz)(knd:KeyKind Z.prog Z.w K)(F:Fi):List (Option Expr)→List K→Prop
 | nil:Ds Z knd F [] []
 | cons {e:Option Expr} {x:K} {es:List (Option Expr)} {xs:List K}:Aiu Z knd F e x→Ds Z knd F es xs→Ds Z knd F (e::es) (x::xs)
theorem Ds.length{K:Type}[DecidableEq K]{knd:KeyKind Z.prog Z.w K}{es:List (Option Expr)}{xs:List K}(h:Ds Z knd F es xs):es.length=xs.length:=by
 induction h with
 | nil=>rfl
 | cons _ _ ih=>simp[ih]
theorem Ds.some{K:Type}[DecidableEq K]{knd:KeyKind Z.prog Z.w K}{es:List (Option Expr)}{xs:List K}(h:Ds Z knd F es xs):es.all (·.isSome)=true:=by
 induction h with
 | nil=>rfl
 | cons h _ ih=>obtain⟨e',rfl,_⟩:=h;simpa using ih
theorem Ds.uncons{K:Type}[DecidableEq K]{knd:KeyKind Z.prog Z.w K}{k:Option Expr}{ks:List (Option Expr)}{xs:List K}(h:Ds Z knd F (k::ks) xs):∃y ys,xs=y::ys∧Aiu Z knd F k y∧Ds Z knd F ks ys:=by
 cases h with
 | cons h1 h2=>exact⟨_,_,rfl,h1,h2⟩
theorem Acg{K:Type}[DecidableEq K]{knd:KeyKind Z.prog Z.w K}{pos:Pos}{es:List Expr}{vs:List AV}{σ σ':St}(he:EVL Z k F es σ vs σ'):∀{keys:List (Option Expr)} {xs:List K},Ds Z knd F keys xs→keys.length=es.length→
  J Z k F (evalPairs (pairTrees keys es F.env pos)) σ (λB φ r=>∃cvs,H2 Z B φ vs cvs∧Carries knd r (xs.zip cvs)) σ':=by
 induction he with
 | nil=>
  intro keys xs hk h
  obtain rfl:=length_eq_zero_iff.mp h
  obtain rfl:=length_eq_zero_iff.mp hk.length.symm
  exact λA P B φ s Q E hA x q=>pairTrees_nil_walk (q B φ s _ x (.refl B φ) ⟨[],.nil,trivial⟩)
 | cons he hes ih=>
  intro keys xs hk h A P B φ s Q E hA x q
  rcases keys with _ | ⟨ky,keys⟩
  ·exact nomatch h
  refine Cc hk.uncons λy ys z hk1 hks=>?_
  subst z
  obtain⟨e',rfl,hk2⟩:=hk1
  refine pairTrees_cons_walk (hk2 A E _ s λkv tk hkv=>?_)
  refine he A P B φ _ _ E hA (x.toks tk) λB₁ φ₁ s₁ cv x₁ m₁ e₁=>?_
  refine ih hks (Nat.succ.inj h) A P B₁ φ₁ s₁ _ E hA x₁ λB₂ φ₂ s₂ r x₂ m₂ e₂=>?_
  refine Aj e₂ λcvs c1 c2=>?_
  exact q B₂ φ₂ s₂ _ x₂ (m₁.trans m₂) ⟨cv::cvs,.cons (e₁.mono m₂) c1,hkv,rfl,c2⟩
theorem Hc{K α:Type}:∀{xs:List K} {ys:List α},xs.length=ys.length→(xs.zip ys).map (·.1)=xs
 | [],[],_=>rfl
 | _::_,[],h=>by exact nomatch h
 | [],_::_,h=>by exact nomatch h
 | x::xs,y::ys,h=>by simpa using Hc (by simpa using h)
theorem Jw{K:Type}[DecidableEq K](y:K):∀{xs:List K} {ds:List D} {cvs:List Value},Reps B ds cvs→
  match (xs.zip ds).lookup y with
  | some d=>∃v,valueAt (xs.zip cvs) y=some v∧Er B d v
  | none=>valueAt (xs.zip cvs) y=none
 | [],_,_,_=>by simp[valueAt]
 | x::xs,[],_,h=>by subst h;simp[valueAt]
 | x::xs,d::ds,_,h=>by
  refine Cc h λv r z1 h1 h2=>?_
  clear h
  subst z1
  have ih:=Jw y (xs:=xs) h2
  dsimp only[zip_cons_cons,lookup_cons]
  by_cases e:y=x
  ·subst e
   simp only[beq_self_eq_true]
   exact⟨v,by simp[valueAt],h1⟩
  ·have e1:(y==x)=false:=by simpa using e
   have e2:valueAt ((x,v)::xs.zip r) y=valueAt (xs.zip r) y:=by
    delta valueAt
    rw[find?_cons]
    have:decide (x=y)=false:=by simpa using λz=>e z.symm
    simp[this]
   simp only[e1,e2]
   exact ih
theorem W1{K:Type}[DecidableEq K]{knd:KeyKind Z.prog Z.w K}{keys:List (Option Expr)}{es:List Expr}{pos:Pos}{xs:List K}{vs:List AV}{ds:List D}{cel':List Ad}{w:AV}
  (hk:Ds Z knd F keys xs) (he:EVL Z k F es σ vs σ₁) (hl:keys.length=es.length) (h0:keys≠[]) (h15:keys.length≤15) (hn:xs.Nodup) (hd:toDs σ₁.cel vs=some (ds,cel'))
  (hw:∀(B:Aa) φ a,Pm knd B (xs.zip ds) a→VR Z B φ w (.ref a)):EV Z k F (.Dict keys es pos) σ w ⟨σ₁.loc,cel'⟩:=by
 intro A P B φ s Q E hA x q
 refine wpAny_Dict_walk (knd:=knd) hk.some hl h0 h15 ?_
 refine Pb (x.putNew {cls:=.type "dict",data:=.dict #[]} rfl s.toks) λy1 y2 y3=>?_
 have hdn:(s.heap.push {cls:=.type "dict",data:=.dict #[]}).DictOf knd s.heap.objs.size []:=Heap.DictOf.new s.heap
 have hL:s.heap.objs.size≠F.L:=by
  refine Aj x.frame.ns λm w1 _=>?_
  refine Ip w1 λoo es ep h1 _=>?_
  clear w1
  intro z
  have:=Heap.lt_size h1
  rw[←z]at this
  exact lt_irrefl _ this
 have hsm:(s.heap.objs.size==sysModules)=false:=by
  refine Ip Z.g λoo es ep h1 _=>?_
  have:(3:Nat) < s.heap.objs.size:=Heap.lt_size (x.toH.base.g _ _ h1)
  refine beq_eq_false_iff_ne.mpr λz=>?_
  rw[z]at this
  exact absurd this (by decide)
 generalize hD:s.heap.objs.size=D at y1 y2 y3 hdn hL hsm⊢
 refine Acg he hk hl A _ B φ _ _ E hA y1 λB₁ φ₁ s₁ r x₁ m₁ e₁=>?_
 refine Aj e₁ λcvs c1 c2=>?_
 clear e₁
 have hprot:=x₁.toH.base.prot _ _ (Azk _ _ _)
 have hlen:xs.length=cvs.length:=by
  have a1:=hk.length
  have a2:=c1.length
  have a3:=he.length
  lia
 have hfst:=Hc hlen
 refine⟨xs.zip cvs,c2,?_,λh' hd' hs'=>?_⟩
 ·refine Aj (Heap.dictOf_iff.mp hdn) λoo hoo hx=>?_
  have hoo':oo={cls:=.type "dict",data:=.dict #[]}:=by
   have:=y1.toH.base.prot _ _ (Azk _ _ _)
   exact Option.some.inj (hoo.symm.trans this)
  subst hoo'
  exact Heap.dictOf_iff.mpr ⟨_,hprot,hx⟩
 ·rw[merged_nil_of_nodup _ (by rw[hfst];exact hn)]at hd'
  refine D7 (J9 (loc:=σ₁.loc) (cel:=σ₁.cel) x₁ hd c1) λB₂ z₁ m₂ r₂=>?_
  have hB2:B₂ D=none:=m₂.off (m₁.off y3)
  have z₂:=z₁.gone (tk:=s₁.toks+r.length) y2 hB2 (by intro v e;exact nomatch e) λb oo hb e=>hs'.extBut b oo hb e
  refine Aj (Heap.dictOf_iff.mp hd') λoD h1 h2=>?_
  have h2':=h2
  refine Cc h2' λes' ep hex hdat _=>?_
  clear h2'
  have nc:∀v,oD.data≠.cell v:=λv e=>by rw[hdat]at e;exact nomatch e
  have nl:∀vs n,oD≠Bp vs n:=λvs n e=>by rw[e]at hdat;exact nomatch hdat
  refine xa (z₂.basePut h1 hB2 y2 hL nc nl) λz₃ m₃=>?_
  refine q _ _ _ _ z₃ (((m₁.unput y2).trans (m₂.unput y2)).trans m₃) (hw _ _ _ ⟨valueAt (xs.zip cvs),oD,Azk _ _ _,hsm,λh e=>?_,λy=>?_⟩)
  ·exact(Heap.dictOf_iff.mpr ⟨oD,e,h2⟩).mapOf
  ·exact Jw y (r₂.mono m₃.base)
end
theorem Mn:PlainAttrs "re.Pattern":=
 ⟨⟨"object.__getattribute__",by rw[typeLookup_type,builtinLookup_eq_fast];kernel_rfl,by decide +kernel⟩,by rw[typeLookup_type,builtinLookup_eq_fast];kernel_rfl⟩
theorem Gl:Slot "re.Pattern" "search" "re.Pattern.search":=
 .of (owner :="re.Pattern") (n :="search") (by rw[typeLookup_type,builtinLookup_eq_fast];kernel_rfl) (by decide +kernel) (by decide +kernel) (by decide +kernel)
  (by first | exact .inl (by decide +kernel) | exact .inr (by decide +kernel)) (by rw[isSubtype_type];kernel_rfl)
theorem K7:typeOf (.builtin "re.Pattern.search")=pure (.type "method_descriptor"):=by show builtinType _=_;rw[builtinType_eq_fast];kernel_rfl
theorem Jx:entryFor table "re.Pattern.search" = some Builtin.«re.Pattern.search»:=entryFor_of_tree (by kernel_rfl)
theorem L6(a b:Value):argsOk "re.Pattern.search" ⟨[a,b],[]⟩:=by kernel_rfl
noncomputable def Vo:Array Nat := #[14,10,4,1,1,22,0,31,16,127,0,13,7,22,0,31,16,127,0,1]
noncomputable def Vf:Array Nat := #[14,14,4,1,1,9,4294966783,0,0,2147483648,0,0,0,0,0,13,11,9,4294966783,0,0,2147483648,0,0,0,0,0,1]
noncomputable def Hz:Nat→Sre.M→Option Sre.M
 | 0,_=>none
 | n+1,m=>let m:=m.runFor PySem.Builtin.Re.reTurnSteps
  if m.outcome.isSome then some m else Hz n m
noncomputable def failed(m:Sre.M):Bool:=match m.outcome with | some .failed=>true | _=>false
theorem Afm:(Aef.all λx=>((Hz 30 (Sre.forSearch Vo x.cps 0 0 x.cps.size false)).map failed)==some true)=true:=by decide +kernel
theorem Ag8:(Aef.all λx=>((Hz 30 (Sre.forSearch Vf x.cps 0 0 x.cps.size false)).map failed)==some true)=true:=by decide +kernel
section
variable {prog:Program} {w:World} {A:Around} {E:Value→Shared→Prop} {s:Shared}
theorem Ra:∀(n k:Nat) (m m':Sre.M),Hz n m=some m'→Q m' s→wpAny (model prog w) A (PySem.Builtin.Re.reDrive (n+k) m) Q E s
 | 0,k,m,m',h,q=>by exact Am h
 | n+1,k,m,m',h,q=>by
  rw[show n+1+k=(n+k)+1 by exact add_right_comm _ _ _]
  unfold PySem.Builtin.Re.reDrive
  unfold Hz at h
  dsimp only at h⊢
  split at h
  ·rename_i ho
   obtain rfl:=Option.some.inj h
   rw[if_pos ho]
   exact wpAny_pure q
  ·rename_i ho
   rw[if_neg ho]
   exact wpAny_bind (wpAny_rule (Ra n k _ m' h q))
theorem Sm(hf:∀i (Q:ForInStep PUnit→Shared→Prop),Q (.yield ⟨⟩) s→wpAny (model prog w) A (f i ⟨⟩) Q E s):∀(l:List Nat),Q ⟨⟩ s→wpAny (model prog w) A (forIn l PUnit.unit f) Q E s
 | [],q=>by rw[forIn_nil];exact wpAny_pure q
 | i::l,q=>by
  rw[forIn_cons]
  exact wpAny_bind (hf i _ (Sm hf l q))
theorem Ur(h:Hz 30 m=some m')(hf:failed m'=true)(q:Q none s):wpAny (model prog w) A (PySem.Builtin.Re.reRunToEnd m) Q E s:=by
 delta PySem.Builtin.Re.reRunToEnd
 have e:(2:Nat) ^ 64=30+(2 ^ 64 - 30):=by decide
 rw[e]
 refine wpAny_bind (Ra 30 _ m m' h ?_)
 refine wpAny_bind (Sm (λi Q hq=>?_) _ ?_)
 ·split
  ·exact wpAny_bind (wpAny_rule (wpAny_pure hq))
  ·exact wpAny_pure hq
 delta failed at hf
 split at hf
 ·rename_i ho
  rw[ho]
  exact wpAny_pure q
 ·exact Ff hf
def Gr(h:Heap)(a:Addr)(code:Array Nat):Prop:=∃v0 v1 c items n o,h.get? a=some {cls:=.type "re.Pattern",data:=.fields #[v0,v1,.int 0 0,.none,.none,.ref c,.int 0 0]}∧h.get? c=some o∧o.data = .seq items n∧(items.map PySem.Builtin.Re.reRawOf).map (·.toNat)=code
theorem M7{a:Addr}{code:Array Nat}{y:Str}{t:Tok}{Q:Value→Shared→Prop}(hp:Gr s.heap a code)(hl:Nh y=true)
  (hs:((Hz 30 (Sre.forSearch code y.cps 0 0 y.cps.size false)).map failed)=some true) (q:Q .none s):wpAny (model prog w) A (call (.builtin "re.Pattern.search") [.ref a,.str y t]) Q E s:=by
 obtain⟨v0,v1,c,items,n,o,h1,h2,h3,h4⟩:=hp
 have hT:s.TypeIs (.ref a) "re.Pattern" := ⟨_,h1,rfl⟩
 refine Ch hs λm' e1 e2=>?_
 clear hs
 refine wpAny_call_entry Gl hT Jx ?_ (L6 _ _)
 unfold Builtin.«re.Pattern.search»
 refine wpAny_bind ?_
 have hn:PySem.Builtin.Re.reNamed "re.Pattern.search" "search" ["string","pos","endpos"] 1 [.str y t] []=pure [some (.str y t),none,none]:=by rfl
 refine wpAny_bind (wpAny_of_eq hn ?_)
 show wpAny _ _ (fieldsOf (.ref a) >>= _) _ _ _
 refine wpAny_bind (wpAny_fieldsOf h1 rfl ?_)
 have ht:PySem.Builtin.Re.reTextOf (.str y t)=pure (y.cps,0):=by rfl
 refine wpAny_bind (wpAny_of_eq ht ?_)
 show wpAny _ _ (PySem.Builtin.Re.reRawItems (.ref c) >>= _) _ _ _
 refine wpAny_bind ?_
 unfold PySem.Builtin.Re.reRawItems
 refine wpAny_bind (wpAny_seqItems h2 h3 (wpAny_pure (wpAny_pure ?_)))
 have gen:∀T:PySem.Builtin.Re.ReTarget,T.code=code→T.text=y.cps→T.groups=0→T.pos=0→T.lim=y.cps.size→
   wpAny (model prog w) A.in1 (PySem.Builtin.Re.reAnswer T (Sre.forSearch T.code T.text T.groups T.pos T.lim false)) (λfin s'=>∃v,fin = .done (.ret v)∧Q v s') E s:=by
  intro T t1 t2 t3 t4 t5
  rw[t1,t2,t3,t4,t5]
  exact wpAny_bind (Ur e1 e2 (wpAny_pure ⟨_,rfl,q⟩))
 have h63:((2:Int) ^ 63 - 1).toNat=9223372036854775807:=by decide
 have h4':y.cps.size≤4:=by
  delta Nh Aef at hl
  simp only[contains_iff_mem,mem_cons,not_mem_nil,or_false]at hl
  rcases hl with h | h | h | h | h | h | h | h<;>(rw[h];decide)
 refine gen _ h4 rfl rfl ?_ ?_
 ·exact zero_min _
 ·show min ((2:Int) ^ 63 - 1).toNat y.cps.size=y.cps.size
  rw[h63]
  lia
end
@[elab_as_elim] theorem iqk{α β:Type}[BEq β][LawfulBEq β]{x y:β}{P:β→Prop}{a b:Option α}{r:α}(h:(if x==y then a else b)=some r)(k1:a=some r→P y)(k2:b=some r→P x):P x:=
 (iq h).elim (λe=>e.1▸k1 e.2) k2
theorem Akc{prog:Program}{w:World}{A:Around}{E:Value→Shared→Prop}{s:Shared}{d:Addr}{f:Int→Option Value}{j:Int}{t:Tok}{Q:Value→Shared→Prop}(hsm:(d==sysModules)=false)(hM:s.heap.MapOf (PySem.intKind prog w) d f)
  (q:Q ((f j).getD .none) {s with toks:=s.toks+1}):wpAny (model prog w) A (call (.builtin "dict.get") [.ref d,.int j t]) Q E s:=
 call_meetsIn PySem.F.slot_dict_get hM.typeIs PySem.F.entry_dict_get (PySem.F.args_dict_get_2 (.ref d) (.int j t)) (meets_dict_get (PySem.intKind prog w) d (k:=j) (by simp[PySem.intKind,Value.isInt]) hsm) ⟨f,hM,q⟩
section
variable {Z:Bz} {k:Nat} {F:Fi} {σ σ₁ σ₂ σ₃:St}
theorem Fv{o:Expr}{name:Str}{env:Env}{whole:Sem Value}(h:Cy o=true):attributeBase o name env whole=whole:=by
 induction o using Expr.casesOn with
 | Call=>exact Ff h
 | _=>rfl
theorem Pd{M:Model}{A:Around}{E:Value→Shared→Prop}{s:Shared}{env:Env}{pos:Pos}{id:String}{first:List Value}{es:List Expr}{Q:Value→Shared→Prop}(hp:C8 es)
  (h:wpAny M A (spliced (backTo pos (starEach es env))) (λvs s₁=>wpAny M A (call (.builtin id) (first++vs)) Q E s₁) E s):wpAny M A (callWith pos (.builtin id) first (backTo pos (starEach es env)) []) Q E s:=by
 induction es using List.casesOn with
 | nil=>
  refine callWith_method0 ?_
  have:wpAny M A (spliced []) (λvs s₁=>wpAny M A (call (.builtin id) (first++vs)) Q E s₁) E s:=h
  intro Γ p hΓ
  have e:wpAny M A (call (.builtin id) first) Q E s:=by simpa [spliced]using this Γ p hΓ
  exact e Γ p hΓ
 | cons e rest=>
  refine callWith_method1 h ?_ ?_
  ·have h0:=hp e (mem_cons_self ..)
   have h1:=nst h0
   clear h0
   induction e using Expr.casesOn with
   | Starred=>exact J3 h1
   | _=>rfl
  ·rw[Cw λe he=>hp e (mem_cons_of_mem _ he)]
   simp[Function.comp_def]
theorem Xt{T id:String}{a:Expr}{name:Str}{ap pos:Pos}{es:List Expr}{v w:AV}{vs:List AV}(hO:Cy a=true)(hline:(ap.endLine==pos.line)=true)(hlen:es.length < 29)(hp:C8 es)
  (pa:PlainAttrs T) (slot:Slot T name id) (hty:typeOf (.builtin id)=pure (.type "method_descriptor"))
  (ha:EV Z k F a σ v σ₁) (hv:EVs Z k F es σ₁ vs σ₂)
  (hT:∀(P B:Aa) (φ:List Addr) (s:Shared) (cv:Value),Bm Z P B φ F σ₁ s→VR Z B φ v cv→s.TypeIs cv T∧(∀a,cv = .ref a→∃ob,s.heap.get? a=some ob∧ob.dict=none))
  (hc:∀(A:Around) (P B:Aa) (φ:List Addr) (s:Shared) (cv:Value) (cvs:List Value) (Q E:Value→Shared→Prop),Dk k A→Bm Z P B φ F σ₂ s→VR Z B φ v cv→H2 Z B φ vs cvs→
   (∀B' φ' s' r,Bm Z P B' φ' F σ₃ s'→Bj P B B' φ φ'→VR Z B' φ' w r→Q r s')→wpAny Z.M A (call (.builtin id) (cv::cvs)) Q E s):
  EV Z k F (.Call (.Attribute a name ap) es [] pos) σ w σ₃:=by
 intro A P B φ s Q E hA x q
 refine wpAny_Call_method (Fv hO) ?_ hline pa slot hty (ha A P B φ s _ E hA x λB₁ φ₁ s₁ cv x₁ m₁ e₁=>?_)
 ·rw[Cw hp]
  have hkw:(backToKw pos (keywordEach [] F.env)).all (λx=>x.1.isSome)=true:=rfl
  rw[hkw]
  simp only[all_map,Bool.and_true,Bool.and_eq_true,decide_eq_true_eq]
  refine⟨by simp[Function.comp_def],?_⟩
  show es.length+0+0 < 30
  exact lt_add_left _ ‹_›
 ·refine xa (hT P B₁ φ₁ s₁ cv x₁ e₁) λt1 t2=>?_
  refine⟨t1,t2,Pd hp (hv pos A P B₁ φ₁ s₁ _ E hA x₁ λB₂ φ₂ s₂ cvs x₂ m₂ e₂=>?_)⟩
  exact hc A P B₂ φ₂ s₂ cv cvs Q E hA x₂ (e₁.mono m₂) e₂ λB₃ φ₃ s₃ r x₃ m₃ e₃=>q B₃ φ₃ s₃ r x₃ ((m₁.trans m₂).trans m₃) e₃
theorem Ah2{P B:Aa}{φ:List Addr}{s:Shared}{i:Nat}{cv:Value}{c:Ad}(x:Bm Z P B φ F σ s)(hc:σ.cel[i]? = some c)(hv:VR Z B φ (.cell i) cv):
  ∃a vs n,cv = .ref a∧φ[i]? = some a∧s.heap.get? a=some (Bp vs n)∧Reps B c.items vs.toList:=by
 refine Aj hv λa e z=>?_
 clear hv
 subst z
 induction c with
 | m xs=>
  refine Ar (x.toH.cells.at_ i xs hc) λb vs n r1 r2 r3 r4=>?_
  rw[e]at r1;obtain rfl:=Option.some.inj r1
  exact⟨a,vs,n,rfl,e,r3,r4⟩
 | f xs=>
  refine Au (x.toH.cells.fz i xs hc) λb vs n r1 r2 r3=>?_
  rw[e]at r1;obtain rfl:=Option.some.inj r1
  exact⟨a,vs,n,rfl,e,x.toH.base.sub _ _ r2,r3⟩
theorem Yr{P B:Aa}{φ:List Addr}{s:Shared}{i:Nat}{cv:Value}(x:Bm Z P B φ F σ s)(hv:VR Z B φ (.cell i) cv):
  s.TypeIs cv "list" ∧(∀a,cv = .ref a→∃ob,s.heap.get? a=some ob∧ob.dict=none):=by
 refine Aj (id hv) λa e z=>?_
 subst z
 have hlt:i < σ.cel.length:=by
  rw[←x.toH.cells.len];exact(List.getElem?_eq_some_iff.mp e).1
 refine Ar (Ah2 x (List.getElem?_eq_getElem hlt) hv) λa' vs n e1 e2 e3 _=>?_
 refine eqr e1 ?_
 refine⟨(An e3).typeIs,λb hb=>?_⟩
 cases hb
 exact⟨_,e3,rfl⟩
theorem Abn{P B:Aa}{φ:List Addr}{s:Shared}{y:Str}{cv:Value}(hv:VR Z B φ (.d (.str y)) cv):
  ∃t,cv = .str y t:=by simpa [VR,Er]using hv
theorem H2.one{B:Aa}{φ:List Addr}{v:AV}{cvs:List Value}(h:H2 Z B φ [v] cvs):∃cv,cvs=[cv]∧VR Z B φ v cv:=by
 cases h with
 | cons h1 h2=>cases h2;exact⟨_,rfl,h1⟩
theorem H2.two{B:Aa}{φ:List Addr}{v w:AV}{cvs:List Value}(h:H2 Z B φ [v,w] cvs):∃cv cw,cvs=[cv,cw]∧VR Z B φ v cv∧VR Z B φ w cw:=by
 cases h with
 | cons h1 h2=>
  refine Aj h2.one λcw z h3=>?_
  subst z
  exact⟨_,_,rfl,h1,h3⟩
theorem H2.zero{B:Aa}{φ:List Addr}{cvs:List Value}(h:H2 Z B φ [] cvs):cvs=[]:=by
 cases h;rfl
theorem Q1{B:Aa}:∀{l:List D} {ys:List Str} {vs:List Value},Ia l=some ys→Reps B l vs→StrsAre vs ys
 | [],_,_,h,r=>by refine Gc h ?_;subst r;exact .nil
 | .str y::l,_,_,h,r=>by
  refine Ch h λys' h1 z=>?_
  clear h
  subst z
  refine Cc r λv vs z r1 r2=>?_
  clear r
  subst z
  refine xe r1 λt z=>?_
  clear r1
  subst z
  exact .cons y t (Q1 h1 r2)
structure Gv(Z:Bz):Prop where
 n:Gr Z.s₀.heap 163 Vo
 v:Gr Z.s₀.heap 168 Vf
theorem Gr.keep{h h':Heap}{a:Addr}{c:Array Nat}(x:Gr h a c)(k:Bo h h'):Gr h' a c:=by
 obtain⟨v0,v1,c,items,n,o,h1,h2,r⟩:=x
 exact⟨v0,v1,c,items,n,o,k _ _ h1,k _ _ h2,r⟩
theorem Tt{prog:Program}{w:World}{A:Around}{E:Value→Shared→Prop}{s:Shared}{a:Addr}{y:Str}{t:Tok}{Q:Value→Shared→Prop}(h1:Gr s.heap 163 Vo)(h2:Gr s.heap 168 Vf)(ha:a=163∨a=168)(hl:Nh y=true)(q:Q .none s):
  wpAny (model prog w) A (call (.builtin "re.Pattern.search") [.ref a,.str y t]) Q E s:=by
 have hm:y∈Aef:=by simpa [Nh]using hl
 rcases ha with rfl | rfl
 ·exact M7 h1 hl (eq_of_beq (all_eq_true.mp Afm y hm)) q
 ·exact M7 h2 hl (eq_of_beq (all_eq_true.mp Ag8 y hm)) q
def Rq(Z:Bz)(k:Nat)(F:Fi)(id:String)(v:AV)(vs:List AV)(σ:St)(w:AV)(σ':St):Prop:=∀(A:Around) (P B:Aa) (φ:List Addr) (s:Shared) (cv:Value) (cvs:List Value) (Q E:Value→Shared→Prop),Dk k A→Bm Z P B φ F σ s→VR Z B φ v cv→H2 Z B φ vs cvs→
 (∀B' φ' s' r,Bm Z P B' φ' F σ' s'→Bj P B B' φ φ'→VR Z B' φ' w r→Q r s')→wpAny Z.M A (call (.builtin id) (cv::cvs)) Q E s
def Zq(Z:Bz)(F:Fi)(T:String)(v:AV):Prop:=∀(σ:St) (P B:Aa) (φ:List Addr) (s:Shared) (cv:Value),Bm Z P B φ F σ s→VR Z B φ v cv→s.TypeIs cv T∧(∀a,cv = .ref a→∃ob,s.heap.get? a=some ob∧ob.dict=none)
def Met(Z:Bz)(k:Nat)(F:Fi)(v:AV)(name:Str)(vs:List AV)(σ:St)(w:AV)(σ':St):Prop:=∃T id,PlainAttrs T∧Slot T name id∧typeOf (.builtin id)=pure (.type "method_descriptor")∧Zq Z F T v∧Rq Z k F id v vs σ w σ'
section
variable {i:Nat} {u v w:AV} {vs:List AV} {d:D} {y:Str}
theorem O7:Zq Z F "list" (.cell i):=λ_ _ _ _ _ _=>Yr
theorem Uv:Zq Z F "str" (.d (.str y)):=λσ P B φ s cv x hv=>(Abn (P:=P) (s:=s) hv).elim λt e=>e▸⟨rfl,λa e=>nomatch e⟩
theorem Ub(h:G9 i u σ=some (w,σ₁)):Rq Z k F "list.append" (.cell i) [u] σ w σ₁:=by
 refine Ay h λw1 hd h2=>?_
 obtain⟨d,cel⟩:=w1
 refine Ay h2 λxs hx h3=>?_
 have g:=Bf h3
 have hxs:=G1 hx
 intro A P B φ s cv cvs Q E hA x w2 hcvs
 refine Aj w2 λb hb z1=>?_
 clear w2
 subst z1
 refine Cp g.2 ?_
 intro q
 refine Aj hcvs.one λcu z hu=>?_
 subst z
 refine D7 (Pn (loc:=σ.loc) (cel:=σ.cel) x hd hu) λB₂ x₂ m₂ r₂=>?_
 refine Ar (x₂.toH.cells.at_ i xs hxs) λa' vs' n q1 q2 q3 q4=>?_
 cases hb.symm.trans q1
 have hsz:vs'.size≤sizeLine:=(length_toList.symm.trans q4.length)▸le_of_succ_le (C7 g.1)
 exact My q3 (λh' n' hl' hs'=>q _ _ _ _ (x₂.setCell (tk:=s.toks) hxs hb (ys:=xs++[d]) hs' hl' (by rw[toList_push];exact q4.snoc r₂)) m₂ rfl) hsz
theorem Tu{j:Int}(h:Hh i j d σ=some (w,σ₁)):Rq Z k F "list.insert" (.cell i) [.d (.int j),.d d] σ w σ₁:=by
 refine Ay h λxs hx h3=>?_
 have g:=Bf h3
 have hxs:=G1 hx
 have hc:=of_decide_eq_true g.1
 intro A P B φ s cv cvs Q E hA x w2 hcvs
 refine Aj w2 λb hb z1=>?_
 clear w2
 subst z1
 refine Cp g.2 ?_
 intro q
 refine Cc hcvs.two λcj cd z w1 hd=>?_
 subst z
 refine xe w1 λt z1=>?_
 clear w1
 subst z1
 refine Ar (x.toH.cells.at_ i xs hxs) λa' vs' n q1 q2 q3 q4=>?_
 cases hb.symm.trans q1
 have hlen':vs'.size=xs.length:=length_toList.symm.trans q4.length
 have hfit:¬(!Builtin.List.listFitsIndex j)=true:=by
  rw[fitsIndex_of hc.1 (by omega)];decide
 have hsz:vs'.size≤sizeLine:=by rw[hlen',sizeLine_eq];omega
 refine call_meets PySem.F.slot_list_insert (An q3).typeIs PySem.F.entry_list_insert (PySem.F.args_list_insert_3 _ _ _) (PySem.AutoSeq1.list_insert_list_int_val_1 b vs' n j t cd hfit hsz) ⟨q3,?_⟩
 have ek:(if j < 0 then(j+(vs'.size:Int)).toNat else min j.toNat vs'.size)=j.toNat:=by
  rw[if_neg (by omega)]
  lia
 have hr:Reps B (Sf xs j.toNat d) ((vs'.extract 0 (if j < 0 then(j+(vs'.size:Int)).toNat else min j.toNat vs'.size)).push cd++vs'.extract (if j < 0 then(j+(vs'.size:Int)).toNat else min j.toNat vs'.size)).toList:=by
  rw[ek]
  have e1:((vs'.extract 0 j.toNat).push cd++vs'.extract j.toNat).toList=vs'.toList.take j.toNat++cd::vs'.toList.drop j.toNat:=by
   simp[take_of_length_le]
  rw[e1]
  exact(q4.take _).append (Reps.cons hd (q4.drop _))
 exact q _ _ _ _ (x.setCell (tk:=s.toks) hxs hb (λc o hc e=>(Heap.get?_update_other _ _ (Ne.symm hc)).trans e) (PySem.IsL.update q3 (λxs=>have k:=if j < 0 then(j+(xs.size:Int)).toNat else min j.toNat xs.size;(xs.extract 0 k).push cd++xs.extract k)) hr) (.refl B φ) rfl
theorem Afv(h:Xp i σ=some (w,σ₁)):Rq Z k F "list.pop" (.cell i) [] σ w σ₁:=by
 refine Ay h λxs hx h2=>?_
 refine Ay h2 λd hd h3=>?_
 have g:=Bf h3
 have hxs:=G1 hx
 intro A P B φ s cv cvs Q E hA x w1 hcvs
 refine Aj w1 λb hb z=>?_
 clear w1
 subst z
 refine Cp g.2 ?_
 intro q
 cases hcvs.zero
 refine Ar (x.toH.cells.at_ i xs hxs) λa' vs' n q1 q2 q3 q4=>?_
 cases hb.symm.trans q1
 have hlen':vs'.size=xs.length:=length_toList.symm.trans q4.length
 have hsz:vs'.size≤sizeLine:=hlen'▸C7 g.1
 have hlast:xs[xs.length - 1]? = some d:=getLast?_eq_getElem?.symm.trans hd
 refine Aj (q4.get hlast) λcv c1 c2=>?_
 have hy:vs'[vs'.size - 1]? = some cv:=by rw[hlen',←getElem?_toList];exact c1
 refine call_meets PySem.F.slot_list_pop (An q3).typeIs PySem.F.entry_list_pop (PySem.F.args_list_pop_1 _) (MeetsSeq.list_pop_last b vs' n cv hy hsz) ⟨q3,?_⟩
 have hpos:0 < vs'.size:=hlen'▸lt_of_le_of_lt (zero_le _) (List.getElem?_eq_some_iff.mp hlast).1
 have hr:Reps B xs.dropLast (vs'.eraseIdxIfInBounds (vs'.size - 1)).toList:=by
  have e1:(vs'.eraseIdxIfInBounds (vs'.size - 1)).toList=vs'.toList.take (vs'.size - 1):=by
   rw[Array.eraseIdxIfInBounds,dif_pos (by omega),toList_eraseIdx,eraseIdx_eq_take_drop_succ]
   rw[drop_of_length_le (by simp;omega)]
   simp
  rw[e1,dropLast_eq_take,←hlen']
  exact q4.take _
 exact q _ _ _ _ (x.setCell (tk:=s.toks) hxs hb (λc o hc e=>(Heap.get?_update_other _ _ (Ne.symm hc)).trans e) (PySem.IsL.update q3 (λxs=>xs.eraseIdxIfInBounds (vs'.size - 1))) hr) (.refl B φ) c2
theorem Aew{kvs:List (Int×D)}:Zq Z F "dict" (.dint kvs):=by
 intro σ P B φ s cv x w
 refine Id w λad z f o hb hsm hm hf=>?_
 clear w
 subst z
 have hM:=hm _ (x.toH.base.sub _ _ hb)
 refine⟨hM.typeIs,λa e=>?_⟩
 cases e
 refine Au hM λo' es ep h1 h2 _=>?_
 clear hM
 exact⟨o',h1,h2.2.1⟩
theorem Aey{kvs:List (Int×D)}{j:Int}:Rq Z k F "dict.get" (.dint kvs) [.d (.int j)] σ (.d ((kvs.lookup j).getD .none)) σ:=by
 intro A P B φ s cv cvs Q E hA x w1 hcvs q
 refine Id w1 λad z1 f o hb hsm hm hf=>?_
 clear w1
 subst z1
 refine Aj hcvs.one λcj z w=>?_
 subst z
 refine xe w λt z1=>?_
 clear w
 subst z1
 refine Akc hsm (hm _ (x.toH.base.sub _ _ hb)) (q B φ _ _ (x.toks _) (.refl B φ) ?_)
 have hfj:=hf j
 cases hl:kvs.lookup j with
 | none=>rw[hl]at hfj;rw[hfj];exact rfl
 | some d=>
  rw[hl]at hfj
  refine Aj hfj λv v1 v2=>?_
  rw[v1]
  exact v2
theorem Adz{z:Str}(h:Vi y u σ.cel=some z):Rq Z k F "str.join" (.d (.str y)) [u] σ (.d (.str z)) σ:=by
 refine Ay h λl hl h2=>?_
 refine Ay h2 λys hys h3=>?_
 have g:=Bf h3
 intro A P B φ s cv cvs Q E hA x w1 hcvs q
 refine xe w1 λt z2=>?_
 clear w1
 subst z2
 refine Aj hcvs.one λcu z1 hu=>?_
 subst z1
 refine Au (Ct x.toH hl hu) λb vs' n z1 e1 r1=>?_
 subst z1
 have hfit:(ys.map (·.length)).sum+ys.length*y.length≤16777216:=by
  have:=C7 g.1
  rw[sizeLine_eq]at this
  exact this
 exact join_list (An e1) (Q1 hys r1) hfit λt' tk=>q B φ _ _ (x.toks _) (.refl B φ) ⟨_,congrArg (λw=>Value.str w t') g.2⟩
theorem Su{f:Str→Str}{id:String}{a:AV}(H:∀{A:Around} {Q E:Value→Shared→Prop} {s:Shared} {y:Str} {t:Tok},y.length≤5592405→(∀t',Q (.str (f y) t') {s with toks:=s.toks+1})→wpAny Z.M A (call (.builtin id) [.str y t]) Q E s)
  (h:Nb f a vs=some d):(∃y,a = .d (.str y))∧Rq Z k F id a vs σ (.d d) σ:=by
 refine Ay h λy ha h3=>?_
 have g:=Bf h3
 have g1:=Bool.and_eq_true_iff.mp g.1
 rw[Cn ha,isEmpty_iff.mp g1.1]
 refine⟨⟨y,rfl⟩,?_⟩
 intro A P B φ s cv cvs Q E hA x w hcvs q
 refine xe w λt z=>?_
 clear w
 subst z
 refine eqr hcvs.zero ?_
 exact H (le_trans (le_of_ble_eq_true g1.2) (by decide)) λt'=>q B φ _ _ (x.toks _) (.refl B φ) (g.2▸⟨_,rfl⟩)
theorem Gv.two(hPat:Gv Z){P B:Aa}{φ:List Addr}{s:Shared}(x:Bm Z P B φ F σ s):Gr s.heap 163 Vo∧Gr s.heap 168 Vf:=⟨hPat.n.keep x.toH.base.g,hPat.v.keep x.toH.base.g⟩
theorem Amq(hPat:Gv Z){b:Addr}(hb:b=163∨b=168):Zq Z F "re.Pattern" (.g (.ref b)):=by
 rintro σ P B φ s cv x rfl
 have:∃c,Gr s.heap b c:=hb.elim (λe=>e▸⟨_,(hPat.two x).1⟩) (λe=>e▸⟨_,(hPat.two x).2⟩)
 obtain⟨c,v0,v1,cc,items,n,o,h1,_⟩:=this
 refine⟨⟨_,h1,rfl⟩,λa e=>?_⟩
 cases e
 exact⟨_,h1,rfl⟩
theorem Un(hPat:Gv Z){b:Addr}(hb:b=163∨b=168)(hl:Nh y=true):Rq Z k F "re.Pattern.search" (.g (.ref b)) [.d (.str y)] σ (.d .none) σ:=by
 rintro A P B φ s cv cvs Q E hA x rfl hcvs q
 refine Aj hcvs.one λcy z w=>?_
 subst z
 refine xe w λt z1=>?_
 clear w
 subst z1
 exact Tt (hPat.two x).1 (hPat.two x).2 hb hl (q B φ _ _ (x.toks s.toks) (.refl B φ) rfl)
theorem met(hPat:Gv Z){name:Str}(h:meth v name vs σ=some (w,σ₁)):Met Z k F v name vs σ w σ₁:=by
 refine iqk h (λh=>?_) λh=>?_
 ·refine Ay h λi h1 h2=>?_
  refine Ay h2 λu h3 h4=>?_
  rw[Ie h1,E8 h3]
  exact⟨_,_,PySem.F.plainAttrs_list,PySem.F.slot_list_append,PySem.F.type_list_append,O7,Ub h4⟩
 refine iqk h (λh=>?_) λh=>?_
 ·refine Ay h λi h1 h2=>?_
  refine Ay h2 λp h3 h4=>?_
  refine Ay h4 λj h5 h6=>?_
  refine Ay h6 λd h7 h8=>?_
  rw[Ie h1,Kf h3,D2 h5,Fa h7]
  exact⟨_,_,PySem.F.plainAttrs_list,PySem.F.slot_list_insert,PySem.F.type_list_insert,O7,Tu h8⟩
 refine iqk h (λh=>?_) λh=>?_
 ·refine Ay h λi h1 h2=>?_
  have g:=cd h2
  rw[Ie h1,isEmpty_iff.mp g.1]
  exact⟨_,_,PySem.F.plainAttrs_list,PySem.F.slot_list_pop,PySem.F.type_list_pop,O7,Afv g.2⟩
 refine iqk h (λh=>?_) λh=>?_
 ·refine Ch h λd h1 e=>?_
  refine Ay h1 λkvs h2 h3=>?_
  refine Ay h3 λu h4 h5=>?_
  refine Ch h5 λj h6 e'=>?_
  refine Cp e ?_;refine eqk e' ?_
  rw[Qa h2,E8 h4,D2 h6]
  exact⟨_,_,PySem.F.plainAttrs_dict,PySem.F.slot_dict_get,PySem.F.type_dict_get,Aew,Aey⟩
 refine iqk h (λh=>?_) λh=>?_
 ·refine Ay h λy h1 h2=>?_
  refine Ay h2 λu h3 h4=>?_
  refine Ch h4 λz h5 e=>?_
  refine Cp e ?_
  rw[Cn h1,E8 h3]
  exact⟨_,_,PySem.F.plainAttrs_str,PySem.F.slot_str_join,PySem.F.type_str_join,Uv,Adz h5⟩
 refine iqk h (λh=>?_) λh=>?_
 ·refine Ch h λd h1 e=>?_
  refine Cp e ?_
  refine xa (Su (Z:=Z) (k:=k) (F:=F) (σ:=σ) (id :="str.lower") (λh1 h2=>SCL.lower h1 λ_=>h2 _) h1) λw1 m=>?_
  refine xe w1 λy e=>?_
  clear w1
  exact⟨_,_,PySem.F.plainAttrs_str,PySem.F.slot_str_lower,PySem.F.type_str_lower,e▸Uv,m⟩
 refine iqk h (λh=>?_) λh=>?_
 ·refine Ch h λd h1 e=>?_
  refine Cp e ?_
  refine xa (Su (Z:=Z) (k:=k) (F:=F) (σ:=σ) (id :="str.upper") (λh1 h2=>SCL.upper h1 λ_=>h2 _) h1) λw1 m=>?_
  refine xe w1 λy e=>?_
  clear w1
  exact⟨_,_,PySem.F.plainAttrs_str,PySem.F.slot_str_upper,PySem.F.type_str_upper,e▸Uv,m⟩
 refine iqk h (λh=>?_) λh=>?_
 ·refine Ch h λd h1 e=>?_
  refine Ay h1 λg h2 h3=>?_
  refine Ay h3 λb h4 h5=>?_
  refine Ay h5 λu h6 h7=>?_
  refine Ay h7 λy h8 h9=>?_
  have c:=Bf h9
  have c1:=Bool.and_eq_true_iff.mp c.1
  refine Cp e ?_;refine eqk c.2 ?_
  rw[Ah4 h2,X2 h4,E8 h6,Cn h8]
  have hb:=(Bool.or_eq_true_iff.mp c1.1).imp eq_of_beq eq_of_beq
  exact⟨_,_,Mn,Gl,K7,Amq hPat hb,Un hPat hb c1.2⟩
 ·exact nomatch h
end
theorem Aib{a:Expr}{name:Str}{ap pos:Pos}{es:List Expr}{v w:AV}{vs:List AV}(hPat:Gv Z)(hO:Cy a=true)(hline:(ap.endLine==pos.line)=true)(hlen:es.length < 29)(hp:C8 es)
  (ha:EV Z k F a σ v σ₁) (hv:EVs Z k F es σ₁ vs σ₂) (h:meth v name vs σ₂=some (w,σ₃)):EV Z k F (.Call (.Attribute a name ap) es [] pos) σ w σ₃:=
 have⟨T,id,pa,slot,hty,hT,hc⟩:=met (k:=k) (F:=F) hPat h
 Xt hO hline hlen hp pa slot hty ha hv (hT σ₁) hc
end
section
variable {Z:Bz} {k:Nat} {cel cel':List Ad}
theorem B7.cell(x:B7 Z P B φ cel s)(k:Bo s.heap h')(e:s.heap.get? a=none)
  (e':h'.get? a=some (Bp vs n)) (hr:Reps B xs vs.toList):B7 Z P B (φ++[a]) (cel++[.m xs]) {s with heap:=h',toks:=tk}:=by
 have g:=Azw x.base.sub k
 refine⟨(x.grow g).base,(x.cells.grow g).new ⟨x.base.sub.none e,x.base.prot.none e⟩ e' hr λi b q=>?_⟩
 rintro rfl
 refine xe (x.cells.ex i _ q) λo q=>?_
 rw[e]at q;exact Am q
theorem B7.putB(x:B7 Z P B φ cel s)(o:Obj)(ho:(match o with | ⟨_,_,.freed,_⟩=>false | _=>true)=true)(tk:Nat):
  B7 Z P (B.put s.heap.objs.size o) φ cel {s with heap:=s.heap.push o,toks:=tk}∧Bj P B (B.put s.heap.objs.size o) φ φ:=by
 have hn:s.heap.get? s.heap.objs.size=none:=B0 (le_refl _)
 have hs:(s.heap.push o).get? s.heap.objs.size=some o:=by
  unfold Heap.get? Heap.push
  simp only[getElem?_push_size]
  split
  ·rename_i e;obtain rfl:=Option.some.inj e;simp at ho
  ·rfl
 have g:=Eo.put x.base.sub (Bo.push s.heap o) hn hs
 exact⟨x.grow g,g.mono x.base.prot φ⟩
theorem B7.toks(x:B7 Z P B φ cel s)(tk:Nat):B7 Z P B φ cel {s with toks:=tk}:=x.grow (Azw x.base.sub (Bo.refl _))
theorem Vb:∀{l:List D} {ns:List Int} {vs:List Value},Dj l=some ns→Reps B l vs→IntsAre vs ns
 | [],_,_,h,r=>by refine Gc h ?_;subst r;exact .nil
 | .int i::l,_,_,h,r=>by
  refine Ch h λns' h1 z=>?_
  clear h
  subst z
  refine Cc r λv vs z r1 r2=>?_
  clear r
  subst z
  refine xe r1 λt z=>?_
  clear r1
  subst z
  exact .cons i t (Vb h1 r2)
theorem Yq(h:IntsAre vs ns):Reps B (ns.map .int) vs:=by
 induction h with
 | nil=>exact Reps.nil
 | cons n t _ ih=>exact Reps.cons (by exact⟨t,rfl⟩) ih
theorem Afa(hp:ns'.Perm ns)(hs:ns'.Pairwise (· ≤ ·)):ns'=D6 ns:=by
 have h1:(ns.mergeSort λa b=>decide (a≤b)).Pairwise (· ≤ ·):=by
  have:=pairwise_mergeSort (le:=fun(a b:Int)=>decide (a≤b)) (λa b c h1 h2=>by simp at *;lia) (λa b=>by simp;lia) ns
  simpa using this
 exact List.Perm.eq_of_pairwise (le:=(· ≤ ·)) (λa b _ _ h1 h2=>Int.le_antisymm h1 h2) hs h1 (hp.trans (mergeSort_perm _ _).symm)
section
variable {a v:AV} {l:List D} {d:D} {id:String}
theorem Ak6(h:Qi a cel=some n)(hf:fits n=true):CL Z k (.builtin "len") [a] cel (.d (.int n)) cel:=by
 intro A P B φ s vals Q E hA x va q
 refine Aj va.one λcy z hy=>?_
 subst z
 have hn:n≤16777216:=by
  have:=C7 hf
  rw[sizeLine_eq]at this
  exact this
 rcases el h with⟨_,h⟩ | ⟨y,h1,h⟩
 ·refine Ch h λl hl e=>?_
  refine Au (Ct x hl hy) λb vs' n z e1 r1=>?_
  subst z
  have hlen:vs'.size=l.length:=length_toList.symm.trans r1.length
  exact call_len_list (An e1) (by lia) (q B φ _ _ (x.toks _) (.refl B φ) ⟨_,by rw[←e,hlen]⟩)
 ·obtain rfl:=Option.some.inj h
  rw[Cn h1]at hy
  refine xe hy λt z=>?_
  clear hy
  subst z
  exact PySem.P.len_str (by lia) (q B φ _ _ (x.toks _) (.refl B φ) ⟨_,rfl⟩)
theorem Amj{c:Nat}(h:one y.cps.toList=some c):CL Z k (.builtin "ord") [.d (.str y)] cel (.d (.int c)) cel:=by
 intro A P B φ s vals Q E hA x va q
 refine Aj va.one λcy z w=>?_
 subst z
 refine xe w λt z1=>?_
 clear w
 subst z1
 obtain rfl:y=⟨#[c]⟩:=by
  obtain⟨cps⟩:=y
  exact congrArg Str.mk (toList_inj.mp (E8 h))
 exact PySem.P.ord_of_char (q B φ _ _ (x.toks _) (.refl B φ) ⟨_,rfl⟩)
theorem Akb(h:Am1 i=some d):CL Z k (.builtin "chr") [.d (.int i)] cel (.d d) cel:=by
 intro A P B φ s vals Q E hA x va q
 refine Aj va.one λcy z w=>?_
 subst z
 refine xe w λt z1=>?_
 clear w
 subst z1
 delta Am1 at h
 split at h
 ·rename_i hc
  obtain rfl:=Option.some.inj h
  exact chr_of_range hc.1 (by lia) (q B φ _ _ (x.toks _) (.refl B φ) ⟨_,rfl⟩)
 ·exact Am h
theorem Xr(h:Ai7 a cel=some l):CL Z k (.builtin "sorted") [a] cel (.cell cel.length) (cel++[.m l]):=by
 intro A P B φ s vals Q E hA x va q
 refine Ay h λl' hl h=>?_
 refine Ay h λns hns h=>?_
 have g:=Bf h
 cases g.2
 refine Aj va.one λcy z hy=>?_
 subst z
 refine Au (Ct x hl hy) λb vs' n z e1 r1=>?_
 subst z
 have hlen:vs'.toList.length=l'.length:=r1.length
 have h60:=le_of_ble_eq_true g.1
 refine sorted_ints (vs:=vs'.toList) (by simpa using An e1) (Vb hns r1) (by lia) λout ns' a1 a2 a3=>?_
 refine xe (sortedAll_at s.heap vs'.toList out) λe he=>?_
 have y:=x.cell (tk:=s.toks) (a:=s.heap.objs.size+1) (λb o hb=>sortedAll_old hb) (B0 (le_succ _)) he (Yq a1)
 rw[Afa a2 a3]at y
 refine q B _ _ _ y Bj.snoc ⟨_,?_,rfl⟩
 rw[←x.cells.len];simp
theorem Ao3(h:bD id a cel=some d):CL Z k (.builtin id) [a] cel (.d d) cel:=by
 rcases iq h with⟨rfl,h⟩ | h
 ·refine Ay h λn h1 h2=>?_
  have g:=Bf h2
  exact g.2▸Ak6 h1 g.1
 rcases iq h with⟨rfl,h⟩ | h
 ·refine Ay h λy h1 h2=>?_
  refine Ch h2 λc h3 e=>?_
  rw[Cn h1]
  exact e▸Amj h3
 rcases iq h with⟨rfl,h⟩ | h
 ·refine Ay h λi h1 h2=>?_
  rw[D2 h1]
  exact Akb h2
 ·exact Am h
theorem Ui(h:G2 id args cel=some (v,cel')):CL Z k (.builtin id) args cel v cel':=by
 refine Ay h λa h1 h=>?_
 rw[E8 h1]
 rcases iq h with⟨rfl,h⟩ | h
 ·refine Ch h λl h2 e=>?_
  refine Cp e ?_
  exact Xr h2
 ·refine Ch h λd h2 e=>?_
  refine Cp e ?_
  exact Ao3 h2
theorem Abf(h:Lw a=some v):CL Z k (.type "range") [a] cel v cel:=by
 refine Ay h λi h1 h=>?_
 have g:=Bf h
 have hc:=of_decide_eq_true g.1
 refine eqk g.2 ?_
 rw[D2 h1]
 intro A P B φ s vals Q E hA x va q
 refine Aj va.one λcy z w=>?_
 subst z
 refine xe w λt z1=>?_
 clear w
 subst z1
 refine xa (x.putB {cls:=.type "range",data:=.fields #[.int 0 s.toks,.int i t,.int 1 (s.toks+1)]} rfl (s.toks+1+1)) λy1 y2=>?_
 refine call_range_1 (q _ _ _ _ y1 y2 ⟨_,s.toks,t,s.toks+1,rfl,?_⟩)
 rw[Azk,Int.toNat_of_nonneg hc.1]
theorem Ah0(h:Qp a=some v):CL Z k (.type "type") [a] cel v cel:=by
 intro A P B φ s vals Q E hA x va q
 refine Aj va.one λcy z hy=>?_
 subst z
 rcases el h with⟨_,h⟩ | ⟨y,h1,h⟩
 ·refine Ch h λi h1 e=>?_
  subst e
  rw[Ie h1]at hy
  refine Aj (id hy) λa0 ha0 _=>?_
  have hlt:i < cel.length:=by
   rw[←x.cells.len];exact(List.getElem?_eq_some_iff.mp ha0).1
  refine Au (Ct x (a:=.cell i) (xs:=(cel[i]).items) (congrArg (Option.map Ad.items) (List.getElem?_eq_getElem hlt)) hy) λb vs' n z e1 r1=>?_
  subst z
  exact call_type_of (Tx :="list") (An e1).typeIs (by decide) (q B φ _ _ (x.toks s.toks) (.refl B φ) rfl)
 ·obtain rfl:=Option.some.inj h
  rw[Cn h1]at hy
  refine xe hy λt z=>?_
  clear hy
  subst z
  exact call_type_of (Tx :="str") rfl (by decide) (q B φ _ _ (x.toks s.toks) (.refl B φ) rfl)
theorem Vz(h:N3 id args cel=some (v,cel')):CL Z k (.type id) args cel v cel':=by
 refine Ay h λa h1 h=>?_
 refine Ch h λu h2 e=>?_
 refine Cp e ?_
 rw[E8 h1]
 rcases iq h2 with⟨rfl,h3⟩ | h3
 ·exact Abf h3
 rcases iq h3 with⟨rfl,h4⟩ | h4
 ·exact Ah0 h4
 ·exact Am h4
end
end
theorem L9:typeLookup (.type "object") ("_headers" : Str)=pure none:=by rw[typeLookup_type,builtinLookup_eq_fast];kernel_rfl
theorem Al4:typeLookup (.type "object") ("add_header" : Str)=pure none:=by rw[typeLookup_type,builtinLookup_eq_fast];kernel_rfl
theorem Aj3:typeLookup (.type "object") ("get_all" : Str)=pure none:=by rw[typeLookup_type,builtinLookup_eq_fast];kernel_rfl
theorem Ah9:typeLookup (.type "object") ("_convert_string_type" : Str)=pure none:=by rw[typeLookup_type,builtinLookup_eq_fast];kernel_rfl
theorem Agf{C N:Addr}{mN:Str→Option Value}(x:ClsAt h C N mN){X:Prop}(k:∀nm q bs sn sub col dd k0 k1 k2 k3 k5,h.get? C=some (excClassObj nm q C N bs [.type "object"] true sn sub false col dd k0 k1 k2 k3 k5 "object.__new__")→X):X:=by
 obtain⟨a,b,c,d,e,f,g,i,j,l,m,n,o⟩:=x.obj
 exact k _ _ _ _ _ _ _ _ _ _ _ _ o
structure Fw(Z:Bz)(mN:Str→Option Value):Prop where
 cls:ClsAt Z.s₀.heap 297 296 mN
 ga:mN "__getattribute__" = none
 gt:mN "__getattr__" = none
 hd:mN "_headers" = none
 add:mN "add_header" = some (.ref 294)
 all:mN "get_all" = some (.ref 236)
 conv:mN "_convert_string_type" = some (.ref 198)
 fn:∀a:Nat,(a=294∨a=236∨a=198)→∃o fd,Z.s₀.heap.get? a=some o∧o.cls = .type "function" ∧o.data = .func fd
section
variable {Z:Bz} {k:Nat} {F:Fi} {σ σ₁ σ₂ σ₃:St} {mN:Str→Option Value}
theorem Ac4(H:Fw Z mN){i:Nat}(ha:EV Z k F (.Name z zp) σ (.hdr i) σ₁):EV Z k F (.Attribute (.Name z zp) "_headers" p) σ (.cell i) σ₁:=by
 intro A P B φ s Q E hA x q
 refine Attribute_name (ha A P B φ s _ E hA x λB₁ φ₁ s₁ cv x₁ m₁ e₁=>?_)
 refine Cc e₁ λxx a hφ z1 hB=>?_
 clear e₁
 subst z1
 refine Agf (H.cls.keeps x₁.toH.base.g) λ_ _ _ _ _ _ _ _ _ _ _ _ hC=>?_
 have I:=hB.inst x₁.toH.base.sub
 have fin:=q B₁ φ₁ _ (.ref a) (x₁.toks (s₁.toks+1)) m₁ ⟨a,hφ,rfl⟩
 have hns:=(H.cls.keeps x₁.toH.base.g).ns
 obtain⟨hh,g,d,t,os⟩:=s₁
 exact load_attr hC hns H.ga H.hd L9 I (by rfl) (by rfl) fin
theorem Ad5(H:Fw Z mN){E:Value→Shared→Prop}{x a f:Addr}{Q:Value×List Value→Shared→Prop}(hb:B.ok s.heap)(k:Bo Z.s₀.heap s.heap)(hB:Tq B x a)
  (hf:mN name=some (.ref f)) (hfn:∃o fd,Z.s₀.heap.get? f=some o∧o.cls = .type "function" ∧o.data = .func fd) (hno:typeLookup (.type "object") name=pure none) (hne:name≠ "_headers") (q:Q (.ref f,[.ref x]) s):
  wpAny Z.M A (getMethod (.ref x) name pl) Q E s:=by
 refine Agf (H.cls.keeps k) λ_ _ _ _ _ _ _ _ _ _ _ _ hC=>?_
 have I:=hB.inst hb
 have hns:=(H.cls.keeps k).ns
 refine Cc hfn λo fd h1 h2 h3=>?_
 clear hfn
 have h1':=k _ _ h1
 obtain⟨hh,g,d,t,os⟩:=s
 exact method_of hC hns H.ga H.gt hf h1' h2 hno I (by simp[Ud,hne]) q
theorem Acu(H:Fw Z mN)(hO:Cy a=true)(hline:(ap.endLine==pos.line)=true)(hlen:es.length < 29)(hp:C8 es)
  (hf:N2 name=some f) (ha:EV Z k F a σ (.hdr i) σ₁) (hv:EVs Z k F es σ₁ vs σ₂) (hc:CL Z k (.ref f) (.hdr i::vs) σ₂.cel w cel'):
  EV Z k F (.Call (.Attribute a name ap) es [] pos) σ w ⟨σ₂.loc,cel'⟩:=by
 have hff:((name = "add_header" ∧f=294)∨(name = "get_all" ∧f=236)):=by
  unfold N2 at hf
  split at hf
  ·rename_i h;refine spr hf ?_;exact .inl ⟨eq_of_beq h,rfl⟩
  ·split at hf
   ·rename_i h;refine spr hf ?_;exact .inr ⟨eq_of_beq h,rfl⟩
   ·exact Am hf
 have h1:mN name=some (.ref f):=by rcases hff with⟨rfl,rfl⟩ | ⟨rfl,rfl⟩<;>first | exact H.add | exact H.all
 have h2:∃o fd,Z.s₀.heap.get? f=some o∧o.cls = .type "function" ∧o.data = .func fd:=by rcases hff with⟨rfl,rfl⟩ | ⟨rfl,rfl⟩<;>exact H.fn _ (by decide)
 have h3:typeLookup (.type "object") name=pure none:=by rcases hff with⟨rfl,rfl⟩ | ⟨rfl,rfl⟩<;>first | exact Al4 | exact Aj3
 have h4:name≠ "_headers" := by rcases hff with⟨rfl,rfl⟩ | ⟨rfl,rfl⟩<;>decide
 intro A P B φ s Q E hA x q
 rw[arm_eval_Call,Fv hO]
 refine wpAny_bind (ha A P B φ s _ E hA x λB₁ φ₁ s₁ cv x₁ m₁ e₁=>?_)
 refine wpAny_bind (wpAny_standAt ?_)
 have hform:methodCallForm (es.length+([]:List Keyword).length) (backTo pos (starEach es F.env)) (backToKw pos (keywordEach [] F.env))=true:=by
  show((backTo pos (starEach es F.env)).all (λx=>!x.1)&&(backToKw pos (keywordEach [] F.env)).all (λx=>x.1.isSome)&&decide (es.length+([]:List Keyword).length+(if([]:List Keyword).isEmpty then 0 else 1) < 30))=true
  rw[Cw hp]
  have hkw:(backToKw pos (keywordEach [] F.env)).all (λx=>x.1.isSome)=true:=rfl
  rw[hkw]
  simp only[all_map,Bool.and_true,Bool.and_eq_true,decide_eq_true_eq]
  refine⟨by simp[Function.comp_def],?_⟩
  show es.length+0+0 < 30
  exact lt_add_left _ ‹_›
 have hpos:methodCallPos true a F.env ap pos=pure pos:=by unfold methodCallPos;simp[hline]
 unfold methodCall
 rw[hform]
 refine Cc (id e₁) λxx l hφ z hB=>?_
 subst z
 refine wpAny_bind (wpAny_holding (Ad5 H x₁.toH.base.sub x₁.toH.base.g hB h1 h2 h3 h4 ?_))
 refine wpAny_bind (wpAny_of_eq hpos ?_)
 refine Cc h2 λo fd ho _ hd=>?_
 clear h2
 refine Calls.callWith_function (o:=o) (fd:=fd) (Ei hp (hv pos A P B₁ φ₁ s₁ _ E hA x₁ λB₂ φ₂ s₂ cvs x₂ m₂ e₂=>⟨⟨x₂.toH.base.g _ _ ho,hd⟩,?_⟩))
 refine hc A (F.keep s₂.heap P) B₂ φ₂ s₂ (.ref xx::cvs) Q E hA x₂.lend (.cons (e₁.mono m₂) e₂) λB₃ φ₃ s₃ cv x₃ m₃ e₃=>?_
 refine xa (x₂.back x₃ m₃) λy1 y2=>?_
 exact q B₃ φ₃ s₃ cv y1 ((m₁.trans m₂).trans y2) e₃
def CLK(Z:Bz)(k:Nat)(args:List AV)(cel:List Ad)(v:AV)(cel':List Ad):Prop:=
 ∀(A:Around) (P B:Aa) (φ:List Addr) (s:Shared) (a b c:Value) (Q E:Value→Shared→Prop),Dk k A→B7 Z P B φ cel s→H2 Z B φ args [a,b,c]→
  (∀B' φ' s' cv,B7 Z P B' φ' cel' s'→Bj P B B' φ φ'→VR Z B' φ' v cv→Q cv s')→wpAny Z.M A (call (.ref 198) [a,b] [("name",c)]) Q E s
theorem Adh(H:Fw Z mN)(hline:(ap.endLine==pos.line)=true)(he:∀x p,e≠.Starred x p)
  (ha:EV Z k F (.Name z zp) σ (.hdr i) σ₁) (hv:EV Z k F e σ₁ v σ₂) (hc:CLK Z k [.hdr i,v,.d (.bool b)] σ₂.cel w cel'):
  EV Z k F (.Call (.Attribute (.Name z zp) "_convert_string_type" ap) [e] [⟨some "name",.Constant (.bool b) kc kp,kq⟩] pos) σ w ⟨σ₂.loc,cel'⟩:=by
 have h2:=H.fn 198 (by decide)
 have hpe:C8 [e]:=λe' he'=>by
  rw[mem_singleton.mp he'];exact he
 intro A P B φ s Q E hA x q
 rw[arm_eval_Call,Fv rfl]
 refine wpAny_bind (ha A P B φ s _ E hA x λB₁ φ₁ s₁ cv x₁ m₁ e₁=>?_)
 refine wpAny_bind (wpAny_standAt ?_)
 have hst:starEach [e] F.env=(false,eval e F.env)::starEach [] F.env:=by
  have h1:=nst he
  clear he
  induction e using Expr.casesOn with
  | Starred=>exact J3 h1
  | _=>rfl
 have hform:methodCallForm ([e].length+[(⟨some "name",.Constant (.bool b) kc kp,kq⟩:Keyword)].length) (backTo pos (starEach [e] F.env)) (backToKw pos (keywordEach [⟨some "name",.Constant (.bool b) kc kp,kq⟩] F.env))=true:=by
  rw[hst];rfl
 have hpos:methodCallPos true (.Name z zp) F.env ap pos=pure pos:=by unfold methodCallPos;simp[hline]
 unfold methodCall
 rw[hform]
 refine Cc (id e₁) λxx l hφ z1 hB=>?_
 subst z1
 refine wpAny_bind (wpAny_holding (Ad5 H x₁.toH.base.sub x₁.toH.base.g hB H.conv h2 Ah9 (by decide) ?_))
 refine wpAny_bind (wpAny_of_eq hpos ?_)
 refine Cc h2 λo fd ho _ hd=>?_
 clear h2
 refine callWith_function_kw (o:=o) (fd:=fd) (evalArgs_kw2 rfl (wpAny_items_cons (hv A P B₁ φ₁ s₁ _ E hA x₁ λB₂ φ₂ s₂ cx x₂ m₂ e₂=>wpAny_items_nil ?_) hst) hst)
 refine kwAll_cons (wpAny_Constant_bool (kwAll_nil ⟨⟨x₂.toH.base.g _ _ ho,hd⟩,?_⟩))
 refine hc A (F.keep s₂.heap P) B₂ φ₂ s₂ (.ref xx) cx (.bool b) Q E hA x₂.lend (.cons (e₁.mono m₂) (.cons e₂ (.cons (by rfl) .nil))) λB₃ φ₃ s₃ cv x₃ m₃ e₃=>?_
 refine xa (x₂.back x₃ m₃) λy1 y2=>?_
 exact q B₃ φ₃ s₃ cv y1 ((m₁.trans m₂).trans y2) e₃
end
theorem Uz{prog:Program}{w:World}{K:Type}[DecidableEq K]{knd:KeyKind prog w K}{h:Heap}{a:Addr}{f:K→Option Value}(hm:h.MapOf knd a f)(hf:∀k,f k=none):∃ep,h.DictAt knd a [] ep:=by
 refine E3 hm λo es ep h1 h2 h3 h4 h5=>?_
 clear hm
 have hes:es = #[]:=by
  refine eq_empty_iff_forall_not_mem.mpr λe he=>?_
  refine Aj (h4 e he) λk hk _=>?_
  have:=h5 k
  rw[hf]at this
  delta findBy at this
  rw[map_eq_none_iff,find?_eq_none]at this
  exact this e he hk
 subst hes
 exact⟨ep,o,#[],h1,h2,h3,h4,.nil,nodup_nil⟩
section
variable {Z:Bz} {k:Nat} {F:Fi} {σ σ₁ σ₂ σ₃:St}
theorem Aaq{a t:Expr}{ap p pos:Pos}{b:List Stmt}(hO:Cy a=true)(hline:(ap.endLine==p.line)=true)(ha:EV Z k F a σ (.dstr []) σ₁):EX Z k F (.For t (.Call (.Attribute a "items" ap) [] [] p) b [] pos) σ .next σ₁:=by
 intro A P B φ s Q E hA x q
 refine wpAny_For ?_ (λx=>rfl)
 refine wpAny_Call_method (T :="dict") (id :="dict.items") (Fv hO) rfl hline PySem.F.plainAttrs_dict PySem.F.slot_dict_items PySem.F.type_dict_items (ha A P B φ s _ E hA x λB₁ φ₁ s₁ cv x₁ m₁ e₁=>?_)
 refine Id e₁ λd z f o hb hsm hmm hf=>?_
 clear e₁
 subst z
 have hM:=hmm _ (x₁.toH.base.sub _ _ hb)
 refine xe (Uz hM (λy=>by have:=hf y;simpa using this)) λep hD=>?_
 refine⟨hM.typeIs,hM.noDict,?_⟩
 refine method_meetsIn PySem.F.slot_dict_items PySem.F.entry_dict_items rfl (PySem.evalArgs_none ⟨rfl,hM.typeIs,PySem.F.args_dict_items_1 _,_,meets_dict_items (PySem.strKind Z.prog Z.w) d hsm,⟨[],hD.dictOf⟩,?_⟩)
 have x₂:=x₁.keep (tk:=s₁.toks) (Bo.push s₁.heap {cls:=.type "dict_items",data:=.fields #[.ref d]})
 refine wpAny_pyIter_items (s:={s₁ with heap:=s₁.heap.push {cls:=.type "dict_items",data:=.fields #[.ref d]}}) (knd:=PySem.strKind Z.prog Z.w) (d:=d) (kvs:=[]) (ep:=ep) ⟨_,Heap.get?_push_size _ rfl,rfl,rfl⟩ (hD.push _) ?_
 refine Pb (x₂.putNew {cls:=.type "dict_itemiterator",data:=.fields #[.none,.bool false,.ref d,.int 0 0,.int (([]:List (Str×Value)).length:Nat) 0,.int ep 0,.none,.none]} rfl s₁.toks) λy1 y2 y3=>?_
 generalize hs3:({s₁ with heap:=(s₁.heap.push {cls:=.type "dict_items",data:=.fields #[.ref d]}).push {cls:=.type "dict_itemiterator",data:=.fields #[.none,.bool false,.ref d,.int 0 0,.int (([]:List (Str×Value)).length:Nat) 0,.int ep 0,.none,.none]}}:Shared)=s₃ at y1
 have hD3:s₃.heap.DictAt (PySem.strKind Z.prog Z.w) d [] ep:=by rw[←hs3];exact(hD.push _).push _
 refine codeAny_forLoop_any (λn s=>s=s₃) ?_ 0 (by rw[←hs3])
 rintro n s rfl
 have hI:=y1.toH.base.prot _ _ (Azk _ _ _)
 refine wpAny_pyNext_items_end (knd:=PySem.strKind Z.prog Z.w) (kvs:=[]) (i:=0) hA.hd hI hD3 rfl λh' he=>?_
 refine wpAny_execs_nil ?_
 exact q B₁ φ₁ _ _ (y1.gone (tk:=s.toks) y2 y3 (by intro v e;cases e) λb oo hb e=>he b oo hb e) m₁ rfl
end
section
variable {Z:Bz} {k:Nat} {F:Fi} {σ σ₁ σ₂ σ₃:St}
def Jg(Z:Bz)(G:List (Str×AV)):Prop:=∀y v,G.lookup y=some v→(y==("__debug__" : Str))=false∧
 ((∃cv,Z.mg y=some cv∧VR Z Z.s₀.heap.get? [] v cv)∨(∃cv,v = .g cv∧Z.mg y=none∧Z.mb y=some cv))
theorem Aeb(hk:F.env.kindOf y=some .globalImplicit)(hv:Z.mg y=some cv)(hr:VR Z Z.s₀.heap.get? [] v cv)(hd:(y==("__debug__" : Str))=false):EV Z k F (.Name y p) σ v σ:=
 J.now λA P B φ s Q E hA x q=>by
  have hr':VR Z B φ v cv:=hr.up x.toH.base.old (λi a e=>by simp at e)
  exact Name_function_global F.fun_ hk (loadGlobal_global (F.glob▸Z.g.keeps x.toH.base.g) hv (q _ s.toks hr')) hd
theorem Aj7:EV Z k F (.UnaryOp .USub (.Constant (.int i) n p) p') σ (.d (.int (-i))) σ:=
 J.now λA P B φ s Q E hA x q=>wpAny_UnaryOp (wpAny_Constant_int (PySem.P.neg_int (q _ _ ⟨_,rfl⟩)))
theorem Ahe(hl:EV Z k F l σ a σ₁)(hr:EV Z k F r σ₁ b σ₂)(ho:Rf Z k op a b σ₂.cel c)
  (hm:behindInMarks op r=false):EV Z k F (.Compare l [op] [r] p) σ (.d (.bool c)) σ₂:=by
 intro A P B φ s Q E hA x q
 refine wpAny_Compare1 (hl A P B φ s _ E hA x λB₁ φ₁ s₁ ca x₁ m₁ va=>hr A P B₁ φ₁ s₁ _ E hA x₁ λB₂ φ₂ s₂ cb x₂ m₂ vb=>?_) hm
 exact ho A P B₂ φ₂ s₂ ca cb Q E hA x₂.toH (va.mono m₂) vb λtk=>q B₂ φ₂ _ _ (x₂.toks tk) (m₁.trans m₂) rfl
theorem Ah8(hl:EV Z k F l σ a σ₁)(hr:EV Z k F r σ₁ b σ₂)(ho:Rf Z k op a b σ₂.cel c)
  (hm:behindInMarks op r=false):TV Z k F (.Compare l [op] [r] p) σ c σ₂:=by
 intro A P B φ s Q E hA x q
 refine wpAny_isTrue_Compare1 (hl A P B φ s _ E hA x λB₁ φ₁ s₁ ca x₁ m₁ va=>hr A P B₁ φ₁ s₁ _ E hA x₁ λB₂ φ₂ s₂ cb x₂ m₂ vb=>?_) hm
 exact ho A P B₂ φ₂ s₂ ca cb _ E hA x₂.toH (va.mono m₂) vb λtk=>wpAny_truthy_bool (q B₂ φ₂ _ _ (x₂.toks tk) (m₁.trans m₂) rfl)
theorem Afz(ha:EV Z k F a σ v σ₁)(hi:EV Z k F i σ₁ w σ₂)(h:item v w σ₂.cel=some u):EV Z k F (.Subscript a i p) σ u σ₂:=by
 intro A P B φ s Q E hA x q
 refine Subscript_ (ha A P B φ s _ E hA x λB₁ φ₁ s₁ ca x₁ m₁ va=>hi A P B₁ φ₁ s₁ _ E hA x₁ λB₂ φ₂ s₂ ci x₂ m₂ vi=>?_)
 exact Ahp h A P B₂ φ₂ s₂ ca ci Q E hA x₂ (va.mono m₂) vi λB₃ φ₃ s₃ cv x₃ m₃ vv=>q B₃ φ₃ s₃ cv x₃ ((m₁.trans m₂).trans m₃) vv
structure Yv(Z:Bz)(k:Nat)(C:B8):Prop where
 call:∀f args cel v cel',R4 f=true→C f args cel=some (v,cel')→CL Z k f args cel v cel'
 who:∀f args cel v cel',R4 f=true→C f args cel=some (v,cel')→L8 Z f
 kw:∀args cel v cel',C .none args cel=some (v,cel')→CLK Z k args cel v cel'
structure Snd(Z:Bz)(k:Nat)(r:I):Prop where
 e:∀(F:Fi) e σ v σ',r.e F.sc e σ=some (v,σ')→EV Z k F e σ v σ'
 es:∀(F:Fi) es σ vs σ',r.es F.sc es σ=some (vs,σ')→EVL Z k F es σ vs σ'∧C8 es
 t:∀(F:Fi) t σ b σ',r.t F.sc t σ=some (b,σ')→TV Z k F t σ b σ'
 s:∀(F:Fi) st σ fl σ',r.s F.sc st σ=some (fl,σ')→EX Z k F st σ fl σ'
 ss:∀(F:Fi) sts σ fl σ',r.ss F.sc sts σ=some (fl,σ')→XS Z k F sts σ fl σ'
 w:∀(F:Fi) t b p σ fl σ',r.w F.sc t b σ=some (fl,σ')→EX Z k F (.While t b [] p) σ fl σ'
 noSet:∀sc e σ v,r.e sc e σ=some v→(∀a b c,e≠.Set a b c)∧(∀a b,e≠.Starred a b)
theorem As4{e:Expr}(h:∀a b c,e≠.Set a b c):Nat.beq e.ctorIdx 7=false:=by
 refine Bool.eq_false_iff.mpr λhn=>?_
 induction e using Expr.casesOn with
 | Set=>exact h _ _ _ rfl
 | _=>exact Ff hn
theorem Dx{e:Expr}(h:∀a b c,e≠.Set a b c)(x:Value):foldedSetIterable e env x=pure x:=by
 have h1:=As4 h
 clear h
 induction e using Expr.casesOn with
 | Set=>exact J3 h1
 | _=>rfl
theorem Kw{e:Expr}(h:∀a b c,e≠.Set a b c):behindInMarks op e=false:=by
 have h1:=As4 h
 clear h
 induction e using Expr.casesOn with
 | Set=>exact J3 h1
 | _=>rfl
theorem Wt(S:Snd Z k r)(h:Iw r F.sc e σ=some (i,σ₁)):PV Z k F e σ i σ₁:=by
 rcases e with _ | e
 ·refine Bi h ?_;exact Ahx
 ·refine bdq h λv σ' h1 h=>?_
  rcases v with(_ | _ | i | _) | _<;>try exact Am h
  exact Bi h (Agp (S.e F _ _ _ _ h1))
theorem Acp:∀{l:List Str},C4 ks=some l→Ds Z (PySem.strKind Z.prog Z.w) F ks l:=by
 induction ks with
 | nil=>intro l h;refine Gc h ?_;exact .nil
 | cons k ks ih=>
  intro l h
  induction k with
  | none=>exact Am h
  | some e=>
   induction e using Expr.casesOn with
   | Constant c n p=>
    induction c with
    | str x=>
     refine Ch (show(C4 ks).map (x :: ·)=some l from h) λl' h1 z=>?_
     subst z
     exact .cons ⟨_,rfl,λA E Q s q=>wpAny_Constant_str (q _ _ (by simp[PySem.strKind,Value.isStrOf]))⟩ (ih h1)
    | _=>exact Am h
   | _=>exact Am h
theorem Acd:∀{l:List Int},D4 ks=some l→Ds Z (PySem.intKind Z.prog Z.w) F ks l:=by
 induction ks with
 | nil=>intro l h;refine Gc h ?_;exact .nil
 | cons k ks ih=>
  intro l h
  induction k with
  | none=>exact Am h
  | some e=>
   induction e using Expr.casesOn with
   | Constant c n p=>
    induction c with
    | int x=>
     refine Ch (show(D4 ks).map (x :: ·)=some l from h) λl' h1 z=>?_
     subst z
     exact .cons ⟨_,rfl,λA E Q s q=>wpAny_Constant_int (q _ _ (by simp[PySem.intKind,Value.isInt]))⟩ (ih h1)
    | _=>exact Am h
   | _=>exact Am h
theorem Nd{K:Type}[DecidableEq K]{l:List K}{n:Nat}(h:Df l n=true):l.length=n∧l.length≤15∧l≠[]∧l.Nodup:=by
 unfold Df at h
 simp only[Bool.and_eq_true]at h
 refine xa h λw h4=>?_
 clear h
 obtain⟨⟨h1,h2⟩,h3⟩:=w
 exact⟨eq_of_beq h1,le_of_ble_eq_true h2,by intro e;rw[e]at h3;simp at h3,of_decide_eq_true h4⟩
end
section
variable {Z:Bz} {k:Nat} {F:Fi} {σ σ₁ σ₂ σ₃:St} {G:List (Str×AV)} {C:B8} {r:I} {mN:Str→Option Value}
theorem Ab8(hG:Jg Z G)(hk:F.sc.names.lookup y=some .globalImplicit)(h1:G.lookup y=some v):EV Z k F (.Name y p) σ v σ:=by
 refine xa (hG y v h1) λhd h3=>?_
 have hk':=Fi.kind hk (by decide)
 rcases h3 with⟨cv,h4,h5⟩ | ⟨cv,rfl,h4,h5⟩
 ·exact Aeb hk' h4 h5 hd
 ·exact Ald hk' h4 h5 hd
theorem Ai4(h:Nat.ble 29 n=false):n < 29:=lt_of_not_le λhle=>by rw[ble_eq_true_of_le hle]at h;exact J3 h
theorem Wi(h:(a||b)=false):a=false∧b=false:=by rcases a<;>rcases b<;>first | exact⟨rfl,rfl⟩ | exact J3 h
theorem Gh{α:Type}[BEq α][LawfulBEq α]{a b:α}(h:(a != b)=false):a=b:=by
 unfold bne at h
 exact eq_of_beq (by cases e:(a==b)<;>simp_all)
theorem O5{α:Type}[BEq α]{a b:α}(h:(a != b)=false):(a==b)=true:=by
 unfold bne at h
 cases e:(a==b)<;>simp_all
theorem H6(h:(!b)=false):b=true:=by rcases b<;>first | rfl | exact J3 h
theorem Ab4(hG:Jg Z G)(hC:Yv Z k C)(S:Snd Z k r)(hPat:Gv Z)(H:Fw Z mN){e:Expr}{v:AV}(h:Bx G C r F.sc e σ=some (v,σ₁)):EV Z k F e σ v σ₁:=by
 have hh:=SE.of h
 clear h
 induction hh with
 | int=>exact Ak7
 | str=>exact Al0
 | non=>exact Ahw
 | bool=>exact Wv
 | glob hk h1=>exact Ab8 hG hk h1
 | @name y p _ v kd i hk h1 h2 hi hu=>
  refine Kc i ?_ hu
  have:=T5 hi
  rwa [show F.sc.names.map (·.1)=F.names from F.msn]at this
 | neg=>exact Aj7
 | bin h1 h2 h3=>exact Aki (S.e F _ _ _ _ h1) (S.e F _ _ _ _ h2) (Abc h3)
 | cmp h1 h2 h3=>exact Ahe (S.e F _ _ _ _ h1) (S.e F _ _ _ _ h2) (Abv h3) (Kw (S.noSet _ _ _ _ h2).1)
 | @ite t a b p c v σ σ₁ σ₂ h1 h2=>
  induction c with
  | true=>exact Ai9 (S.t F _ _ _ _ h1) (λ_=>S.e F _ _ _ _ h2) (λe=>by exact J3 e)
  | false=>exact Ai9 (S.t F _ _ _ _ h1) (λe=>by exact Ff e) (λ_=>S.e F _ _ _ _ h2)
 | slice h1 h2 h3 h4=>exact Abj (S.e F _ _ _ _ h1) (Wt S h2) (Wt S h3) h4
 | item hs h1 h2 h3=>exact Afz (S.e F _ _ _ _ h1) (S.e F _ _ _ _ h2) h3
 | list h1 h2 h3=>
  refine xa (S.es F _ _ _ _ h1) λl1 l2=>?_
  exact Afj (l1.evs l2) h2 h3
 | tuple h1 h2 h3=>
  refine xa (S.es F _ _ _ _ h1) λl1 l2=>?_
  exact Aci (l1.evs l2) h2 h3
 | dictS hl hok h1 h2=>
  refine xa (S.es F _ _ _ _ h1) λl1 l2=>?_
  refine Uw (Nd hok) λo1 o2 o3 o4=>?_
  have hks:=Acp (Z:=Z) (F:=F) hl
  have hlen:=hks.length
  exact W1 hks l1 (by exact Eq.trans ‹_› ‹_›) (by intro e;rw[e]at hlen;exact o3 (length_eq_zero_iff.mp hlen.symm)) (by lia) o4 h2 λB φ a hm=>⟨a,rfl,hm⟩
 | dictI hn hl hok h1 h2=>
  refine xa (S.es F _ _ _ _ h1) λl1 l2=>?_
  refine Uw (Nd hok) λo1 o2 o3 o4=>?_
  have hks:=Acd (Z:=Z) (F:=F) hl
  have hlen:=hks.length
  exact W1 hks l1 (by exact Eq.trans ‹_› ‹_›) (by intro e;rw[e]at hlen;exact o3 (length_eq_zero_iff.mp hlen.symm)) (by lia) o4 h2 λB φ a hm=>⟨a,rfl,hm⟩
 | meth hg hx h1 h2 h3=>
  refine xa (Wi hg) λhc c3=>?_
  refine xa (Wi hc) λc1 c2=>?_
  refine xa (S.es F _ _ _ _ h2) λl1 l2=>?_
  exact Aib hPat (H6 c2) (O5 c1) (Ai4 c3) l2 (S.e F _ _ _ _ h1) (l1.evs l2) h3
 | hmeth hg h1 h2 h3 h4=>
  refine xa (Wi hg) λhc c3=>?_
  refine xa (Wi hc) λc1 c2=>?_
  refine xa (S.es F _ _ _ _ h2) λl1 l2=>?_
  exact Acu H (H6 c2) (O5 c1) (Ai4 c3) l2 h3 (S.e F _ _ _ _ h1) (l1.evs l2) (hC.call _ _ _ _ _ rfl h4)
 | conv hg h1 h2 h4=>
  refine xa (Wi hg) λhc c3=>?_
  refine xa (Wi hc) λc1 c2=>?_
  obtain rfl:=Gh c2
  obtain rfl:=Gh c3
  exact Adh H (O5 c1) (S.noSet _ _ _ _ h2).2 (S.e F _ _ _ _ h1) (S.e F _ _ _ _ h2) (hC.kw _ _ _ _ h4)
 | hattr hg h1=>
  obtain rfl:=Gh hg
  exact Ac4 H (S.e F _ _ _ _ h1)
 | call h1 h2 hf h3=>
  refine xa (S.es F _ _ _ _ h2) λl1 l2=>?_
  exact Ag6 (S.e F _ _ _ _ h1) (hC.who _ _ _ _ _ hf h3) l2 (l1.evs l2) (hC.call _ _ _ _ _ hf h3)
 | lc hg h1 h2 h3=>
  refine xa (Wi hg) λc1 c2=>?_
  have ha:=Gh c2
  exact Oz (He (H6 c1)) ha (S.e F _ _ _ _ h1) h2 (Dx (S.noSet _ _ _ _ h1).1)
   (Qk ha (λF' hF e σ v σ' he=>by subst hF;exact S.e F' _ _ _ _ he) (λF' hF t σ b σ' ht=>by subst hF;exact S.t F' _ _ _ _ ht) h3)
 | lc2 hg hifs h1 h2 h3=>
  refine xa (Wi hg) λc0 c2=>?_
  refine xa (Wi c0) λc1 c3=>?_
  exact Oz (He (H6 c1)) (Gh c3) (S.e F _ _ _ _ h1) h2 (Dx (S.noSet _ _ _ _ h1).1)
   (Q8 (Gh c3) (Gh c2) hifs (λF' hF σ v hv=>Dx (S.noSet _ _ _ _ hv).1) (λF' hF e σ v σ' he=>by subst hF;exact S.e F' _ _ _ _ he) (λF' hF t σ b σ' ht=>by subst hF;exact S.t F' _ _ _ _ ht) h3)
end
section
variable {Z:Bz} {k:Nat} {F:Fi} {σ σ₁ σ₂ σ₃:St} {G:List (Str×AV)} {C:B8} {r:I}
def Sl(Z:Bz)(k:Nat)(r:I):Prop:=∀(F:Fi) a ops bs p σ v σ',r.e F.sc (.Compare a ops bs p) σ=some (.d (.bool v),σ')→TV Z k F (.Compare a ops bs p) σ v σ'
theorem Yz(S:Snd Z k r)(h:Bx G C r F.sc (.Compare a ops bs p) σ=some (.d (.bool c),σ₁)):TV Z k F (.Compare a ops bs p) σ c σ₁:=by
 rcases ops with _ | ⟨op,_ | ⟨o,ops⟩⟩
 ·exact Am h
 ·rcases bs with _ | ⟨b,_ | ⟨o,bs⟩⟩
  ·exact Am h
  ·refine bdq h λx s1 h1 h=>bdq h λy s2 h2 h=>Ch h λc' h3 h=>?_
   obtain rfl:=D.bool.inj (AV.d.inj (congrArg Prod.fst h))
   exact eqk (show s2=σ₁ from congrArg Prod.snd h) (Ah8 (S.e F _ _ _ _ h1) (S.e F _ _ _ _ h2) (Abv h3) (Kw (S.noSet _ _ _ _ h2).1))
  ·exact Am h
 ·exact Am h
theorem Afo(h:EV Z k F e σ (.d .none) σ₁)
  (he:isTrue e F.env (eval e F.env)=(do let v ←eval e F.env;standAt e.pos;holding [v] (truthy v))):TV Z k F e σ false σ₁:=by
 intro A P B φ s Q E hA x q
 refine wpAny_isTrue_value (h A P B φ s _ E hA x λB₁ φ₁ s₁ cv x₁ m₁ e₁=>?_) he
 have e₂:cv = .none:=by simpa [VR,Er]using e₁
 subst e₂
 exact PyProof.Rows.truthy_none (q B₁ φ₁ s₁ _ x₁ m₁ rfl)
theorem Aee(S:Snd Z k r)(hcmp:Sl Z k r)(h:Jq r F.sc e σ=some (b,σ₁)):TV Z k F e σ b σ₁:=by
 have hh:=SJ.of h
 clear h
 induction hh with
 | not h1=>exact Ams (S.t F _ _ _ _ h1)
 | @and _ _ _ c d _ _ _ h1 h2 h3=>
  induction c with
  | true=>exact U1 (c:=true) (S.t F _ _ _ _ h1) (λ_=>S.t F _ _ _ _ (h2 rfl)) (λe=>by exact J3 e)
  | false=>
   refine xa (h3 rfl) λz z1=>?_
   subst z
   subst z1
   exact U1 (c:=false) (d:=false) (S.t F _ _ _ _ h1) (λe=>by exact Ff e) (λ_=>rfl)
 | @or _ _ _ c d _ _ _ h1 h2 h3=>
  induction c with
  | true=>
   refine xa (h3 rfl) λz z1=>?_
   subst z
   subst z1
   exact Aa4 (c:=true) (d:=false) (S.t F _ _ _ _ h1) (λe=>by exact J3 e) (λ_=>rfl)
  | false=>exact Aa4 (c:=false) (S.t F _ _ _ _ h1) (λ_=>S.t F _ _ _ _ (h2 rfl)) (λe=>by exact Ff e)
 | cmp h1=>exact hcmp F _ _ _ _ _ _ _ h1
 | call h1=>exact Pf (S.e F _ _ _ _ h1) rfl
 | calln h1=>exact Afo (S.e F _ _ _ _ h1) rfl
 | name h1=>exact Pf (S.e F _ _ _ _ h1) rfl
def N0(Z:Bz)(k:Nat)(r:I):Prop:=∀(F:Fi) elt gens sc pos σ v σ₁ σ₂ y p p',r.e F.sc (.ListComp elt gens sc pos) σ=some (v,σ₁)→σ₁.setName F.sc y v=some σ₂→EX Z k F (.Assign [.Name y p'] (.ListComp elt gens sc pos) p) σ .next σ₂
theorem Um(S:Snd Z k r)(h:Bx G C r F.sc (.ListComp elt gens sc pos) σ=some (v,σ₁))(hset:σ₁.setName F.sc y v=some σ₂):
  EX Z k F (.Assign [.Name y p'] (.ListComp elt gens sc pos) p) σ .next σ₂:=by
 rcases gens with _ | ⟨g,_ | ⟨g',_ | ⟨g₂,gens⟩⟩⟩
 ·exact Am h
 ·refine xa (ig h) λhg h=>bdq h λx s1 h1 h=>bdq h λds cel h2 h=>Ch h λs2 h3 h=>?_
  revert hset
  refine Cp h λhset=>?_
  refine xa (Wi hg) λc1 c2=>?_
  have ha:=Gh c2
  exact Gm (He (H6 c1)) ha (S.e F _ _ _ _ h1) h2 (Dx (S.noSet _ _ _ _ h1).1)
   (Qk ha (λF' hF e σ v σ' he=>by subst hF;exact S.e F' _ _ _ _ he) (λF' hF t σ b σ' ht=>by subst hF;exact S.t F' _ _ _ _ ht) h3) hset
 ·refine xa (ig h) λhg h=>bdq h λx s1 h1 h=>bdq h λds cel h2 h=>?_
  cases hifs:g.ifs with
  | nil=>
   rw[hifs]at h
   refine Ch h λs2 h3 h=>?_
   revert hset
   refine Cp h λhset=>?_
   refine xa (Wi hg) λc0 c2=>?_
   refine xa (Wi c0) λc1 c3=>?_
   exact Gm (He (H6 c1)) (Gh c3) (S.e F _ _ _ _ h1) h2 (Dx (S.noSet _ _ _ _ h1).1)
    (Q8 (Gh c3) (Gh c2) hifs (λF' hF σ v hv=>Dx (S.noSet _ _ _ _ hv).1) (λF' hF e σ v σ' he=>by subst hF;exact S.e F' _ _ _ _ he) (λF' hF t σ b σ' ht=>by subst hF;exact S.t F' _ _ _ _ ht) h3) hset
  | cons a l=>rw[hifs]at h;exact Am h
 ·exact Am h
theorem Ks(h:∀a b c d,e≠.ListComp a b c d)(h1:∀a b c d,e≠.SetComp a b c d)(h2:∀a b c d f,e≠.DictComp a b c d f):swapsWith e t n env=pure false:=by
 rcases e<;>first | rfl | (exact absurd rfl (h _ _ _ _)) | (exact absurd rfl (h1 _ _ _ _)) | (exact absurd rfl (h2 _ _ _ _ _))
def Ajg(r:I):Prop:=∀sc e σ v,r.e sc e σ=some v→(∀a b c d,e≠.SetComp a b c d)∧(∀a b c d f,e≠.DictComp a b c d f)
theorem Ok(h1:∀a b c d,e≠.SetComp a b c d)(h2:∀a b c d f,e≠.DictComp a b c d f):swapsWith e (some (.Subscript o i q)) n env=pure false:=by
 rcases e<;>first | rfl | (exact absurd rfl (h1 _ _ _ _)) | (exact absurd rfl (h2 _ _ _ _ _))
theorem Acc(S:Snd Z k r)(hcomp:N0 Z k r)(hno:Ajg r)(hcell:∀sc a b c d σ v σ',r.e sc (.ListComp a b c d) σ=some (v,σ')→∃i,v = .cell i){st:Stmt}{fl:Fl}(h:Ec r F.sc st σ=some (fl,σ₁)):EX Z k F st σ fl σ₁:=by
 have hh:=SK.of h
 clear h
 induction hh with
 | pass=>exact Ahb
 | ret h1=>exact Yh (S.e F _ _ _ _ h1)
 | exprN h1=>
  refine xa (hno _ _ _ _ h1) λn1 n2=>?_
  refine Wd (.inl rfl) (S.e F _ _ _ _ h1) (Ks (λa b c d e=>?_) n1 n2)
  subst e
  refine xe (hcell _ _ _ _ _ _ _ _ h1) λi hi=>?_
  exact nomatch hi
 | exprI h1=>
  refine xa (hno _ _ _ _ h1) λn1 n2=>?_
  refine Wd (.inr ⟨_,rfl⟩) (S.e F _ _ _ _ h1) (Ks (λa b c d e=>?_) n1 n2)
  subst e
  refine xe (hcell _ _ _ _ _ _ _ _ h1) λi hi=>?_
  exact nomatch hi
 | @assign y e _ _ _ _ _ _ h1 h2=>
  refine xa (hno _ _ _ _ h1) λn1 n2=>?_
  by_cases hc:∃a b c d,e = .ListComp a b c d
  ·refine Jp hc λa b c d z=>?_
   clear hc
   subst z
   exact hcomp F _ _ _ _ _ _ _ _ _ _ _ h1 h2
  ·exact Hv (S.e F _ _ _ _ h1) h2 (Ks (λa b c d e=>hc ⟨a,b,c,d,e⟩) n1 n2)
 | setall h1 h2 hc hi hf=>
  refine xa (hno _ _ _ _ h1) λn1 n2=>?_
  exact Yu (S.e F _ _ _ _ h1) (S.e F _ _ _ _ h2) hc hi hf (Ok n1 n2)
 | setitem hn h1 h2 h3 hc h4=>
  refine xa (hno _ _ _ _ h1) λn1 n2=>?_
  exact Alu (S.e F _ _ _ _ h1) (S.e F _ _ _ _ h2) (S.e F _ _ _ _ h3) hc h4 (Ok n1 n2)
 | @ite t a b p c fl _ _ _ h1 h2=>
  induction c with
  | true=>exact Aa3 (S.t F _ _ _ _ h1) (λ_=>S.ss F _ _ _ _ h2) (λe=>by exact J3 e)
  | false=>exact Aa3 (S.t F _ _ _ _ h1) (λe=>by exact Ff e) (λ_=>S.ss F _ _ _ _ h2)
 | whl h1=>exact S.w F _ _ _ _ _ _ h1
 | items hg h1=>
  refine xa (Wi hg) λhc c3=>?_
  refine xa (Wi hc) λc1 c2=>?_
  obtain rfl:=Gh c3
  exact Aaq (H6 c2) (O5 c1) (S.e F _ _ _ _ h1)
 | «for» hn h1 h2 h3=>exact Aji (S.e F _ _ _ _ h1) h2 (λσ fl σ' hb=>S.ss F _ _ _ _ hb) h3 (Dx (S.noSet _ _ _ _ h1).1)
end
section
variable {Z:Bz} {k:Nat} {F:Fi} {σ σ₁ σ₂ σ₃:St} {G:List (Str×AV)} {C:B8} {r:I}
theorem Qx(h:Bx G C r sc e σ=some v):
  (∀a b c,e≠.Set a b c)∧(∀a b,e≠.Starred a b)∧(∀a b c d,e≠.SetComp a b c d)∧(∀a b c d f,e≠.DictComp a b c d f)∧(∀a b c d,e = .ListComp a b c d→∃i,v.1 = .cell i):=by
 refine⟨?_,?_,?_,?_,?_⟩
 ·rintro a b c rfl;exact Am h
 ·rintro a b rfl;exact Am h
 ·rintro a b c d rfl;exact Am h
 ·rintro a b c d f rfl;exact Am h
 ·rintro a b c d rfl
  obtain⟨v,s⟩:=v
  rcases b with _ | ⟨g,_ | ⟨g',_ | ⟨g₂,b⟩⟩⟩
  ·exact Am h
  ·exact Ay (ig h).2 λx h1 h=>Ay h λds h2 h=>Ch h λs2 h3 h=>⟨_,(congrArg Prod.fst h).symm⟩
  ·refine Ay (ig h).2 λx h1 h=>Ay h λds h2 h=>?_
   cases hi:g.ifs with
   | nil=>rw[hi]at h;exact Ch h λs2 h3 h=>⟨_,(congrArg Prod.fst h).symm⟩
   | cons a l=>rw[hi]at h;exact Am h
  ·exact Am h
theorem F4(h:(Ba G C n).e sc e σ=some v):
  (∀a b c,e≠.Set a b c)∧(∀a b,e≠.Starred a b)∧(∀a b c d,e≠.SetComp a b c d)∧(∀a b c d f,e≠.DictComp a b c d f)∧(∀a b c d,e = .ListComp a b c d→∃i,v.1 = .cell i):=by
 induction n using Nat.casesOn with
 | zero=>exact Am h
 | succ n=>exact Qx h
set_option tactic.hygienic true in
theorem Z1:Snd Z k (Ba G C 0):=by
 constructor<;>(intros;rename_i h;exact Am h)
theorem Pq(hG:Jg Z G)(hC:Yv Z k C)(hPat:Gv Z)(H:Fw Z mN):∀n:Nat,(∀m,m≤n→Snd Z k (Ba G C m))
 | 0=>λm hm=>by cases le_zero.mp hm;exact Z1
 | n+1=>λm hm=>by
  have ih:=Pq hG hC hPat H n
  by_cases hlt:m≤n
  ·exact ih m hlt
  have hm:m=n+1:=by lia
  subst hm
  have S:=ih n (le_refl n)
  have hcmp:Sl Z k (Ba G C n):=by
   intro F a ops bs p σ v σ' h
   induction n using Nat.casesOn with
   | zero=>exact Am h
   | succ n=>exact Yz (ih n (le_succ n)) h
  have hcomp:N0 Z k (Ba G C n):=by
   intro F elt gens sc pos σ v σ₁ σ₂ y p p' h hs
   induction n using Nat.casesOn with
   | zero=>exact Am h
   | succ n=>exact Um (ih n (le_succ n)) h hs
  refine⟨λF e σ v σ' h=>Ab4 hG hC S hPat H h,λF es σ vs σ' h=>?_,λF t σ b σ' h=>Aee S hcmp h,λF st σ fl σ' h=>?_,λF sts σ fl σ' h=>?_,λF t b p σ fl σ' h=>?_,λsc e σ v h=>?_⟩
  ·induction es using List.casesOn with
   | nil=>refine Bi h ?_;exact⟨.nil,λe he=>by exact nomatch he⟩
   | cons e es=>
    refine Ay h λx h1 h=>?_
    refine Ch h λy h2 h3=>?_
    clear h
    refine Cp h3 ?_
    refine xa (S.es F _ _ _ _ h2) λl1 l2=>?_
    refine⟨.cons (S.e F _ _ _ _ h1) l1,λe' he'=>?_⟩
    rcases mem_cons.mp he' with rfl | he'
    ·exact(S.noSet _ _ _ _ h1).2
    ·exact l2 e' he'
  ·refine Acc S hcomp (λsc e σ v h=>?_) (λsc a b c d σ v σ' h=>?_) h
   ·refine Qj (F4 h) λ_ _ h3 h4 _=>?_
    exact⟨h3,h4⟩
   ·refine Qj (F4 h) λ_ _ _ _ h5=>?_
    exact h5 _ _ _ _ rfl
  ·induction sts using List.casesOn with
   | nil=>refine Bi h ?_;exact Aa5
   | cons st rest=>
    refine Ay h λw1 h1 h=>?_
    obtain⟨fl₁,σ₁⟩:=w1
    have e1:=S.s F _ _ _ _ h1
    induction fl₁ with
    | next=>exact W4 e1 (S.ss F _ _ _ _ h)
    | brk=>refine Bi h ?_;exact Oq (by simp) e1
    | cont=>refine Bi h ?_;exact Oq (by simp) e1
    | ret v=>refine Bi h ?_;exact Oq (by simp) e1
  ·exact Aa0 (n+1) (test:=λm=>(Ba G C m).t F.sc t) (body:=λm=>(Ba G C m).ss F.sc b) (loop:=λm=>(Ba G C m).w F.sc t b)
    (λm hm σ r σ' h=>(ih m (le_of_lt_succ hm)).t F _ _ _ _ h) (λm hm σ fl σ' h=>(ih m (le_of_lt_succ hm)).ss F _ _ _ _ h) (λ_=>rfl) (λm σ=>rfl) h
  ·refine Pb (F4 h) λh1 h2 _=>?_
   exact⟨h1,h2⟩
end
theorem Et:∀(names:List (Str×NameKind)) (n:Nat) (acc:List (Str×Addr)) (x:Str),((x,.cell)∈names∨(acc.lookup x).isSome=true)→((cellsFrom n names acc).lookup x).isSome=true
 | [],_,_,_,h=>h.elim (λh=>by exact nomatch h) id
 | (y,kd)::r,n,acc,x,h=>by
  unfold cellsFrom
  split
  ·rename_i hk
   refine Et r _ _ x ?_
   rcases h with h | h
   ·rcases mem_cons.mp h with h | h
    ·refine Cp h ?_
     exact .inr (by simp[List.lookup])
    ·exact .inl h
   ·refine .inr ?_
    simp only[List.lookup]
    split
    ·rfl
    ·exact h
  ·rename_i hk
   refine Et r _ _ x ?_
   rcases h with h | h
   ·rcases mem_cons.mp h with h | h
    ·cases h
     exact absurd rfl hk
    ·exact .inl h
   ·exact .inr h
theorem Sa{kd:Str→Option NameKind}{x:Str}(hx:kd x=some .local):∀(b:List (Str×Value)) (m:Str→Option Value),bindL kd b m x=(b.reverse.lookup x).or (m x)
 | [],_=>rfl
 | (n,v)::r,m=>by
  rw[bindL,Sa hx r]
  simp only[reverse_cons,lookup_append]
  cases h:List.lookup x r.reverse with
  | some u=>rfl
  | none=>
   simp only[none_or]
   by_cases e:x=n
   ·subst e
    simp[hx,List.lookup]
   ·have e':(x==n)=false:=by simpa using e
    simp only[List.lookup,e']
    split<;>simp[e]
theorem Rx{kd:Str→Option NameKind}{x:Str}(hx:kd x≠some .local):∀(b:List (Str×Value)) (m:Str→Option Value),bindC kd b m x=(b.reverse.lookup x).or (m x)
 | [],_=>rfl
 | (n,v)::r,m=>by
  rw[bindC,Rx hx r]
  simp only[reverse_cons,lookup_append]
  cases h:List.lookup x r.reverse with
  | some u=>rfl
  | none=>
   simp only[none_or]
   by_cases e:x=n
   ·subst e
    simp[hx,List.lookup]
   ·have e':(x==n)=false:=by simpa using e
    simp only[List.lookup,e']
    split<;>simp[e]
structure Md(Z:Bz)(a:Addr)(fn:B6)(fd:FuncData):Prop where
 obj:∃o,Z.s₀.heap.get? a=some o∧o.data = .func fd
 code:Z.s₀.heap.CodeRec fd.code fd.qualname
 body:fd.body = .stmts fn.body
 sc:fd.scope=fn.sc
 glob:fd.globals=mainGlobals
 blt:fd.builtins=builtinsNs
 clo:fd.closure=[]
 fun_:fn.sc.kind = .function
 co:fn.sc.isCoroutine=false
 gen:fn.sc.isGenerator=false
 nod:(fn.sc.names.map (·.1)).Nodup
 dbg:∀x∈fn.sc.names.map (·.1),fn.sc.names.lookup x≠some .globalImplicit→(x==("__debug__" : Str))=false
 bind:∀(args:List AV) (loc:List (Option AV)),Mine.bindArgs fn args=some loc→∀(B:Aa) (φ:List Addr) (vals:List Value),H2 Z B φ args vals→
  ∃binds,PySem.bindArgs fd ⟨vals,[]⟩=pure binds∧(∀x∈binds,fn.sc.names.lookup x.1=some .local∨fn.sc.names.lookup x.1=some .cell)∧
   ∀(i:Nat) x v,(fn.sc.names.map (·.1))[i]? = some x→loc[i]? = some (some v)→∃cv,binds.reverse.lookup x=some cv∧VR Z B φ v cv
section
variable {Z:Bz} {k:Nat} {F:Fi} {σ σ₁ σ₂ σ₃:St}
theorem Ahr{a:Addr}{fn:B6}{fd:FuncData}(D:Md Z a fn fd){args:List AV}{loc:List (Option AV)}{cel:List Ad}{fl:Fl}{σ':St}(hb:Mine.bindArgs fn args=some loc)
  (hfl:fl = .next∨∃v,fl = .ret v) (h:∀F:Fi,F.sc=fn.sc→XS Z k F fn.body ⟨loc,cel⟩ fl σ'):CL Z (k+1) (.ref a) args cel fl.val σ'.cel:=by
 intro A P B φ s vals Q E hA x va q
 refine Aj D.obj λo ho hd=>?_
 have kp:=x.base.g
 refine D7 (D.bind args loc hb B φ vals va) λbinds b1 b2 b3=>?_
 have hsc:=D.sc
 have isC:∀y,fd.scope.names.lookup y=some .cell→((cellsFrom (s.heap.objs.size+1) fd.scope.names []).lookup y).isSome=true:=λy e=>Et _ _ _ _ (.inl (Av e))
 have f1:fd.scope.kind = .function:=by rw[hsc];exact D.fun_
 refine wpAny_call (codeAny_call_cells hA.depth (kp _ _ ho) hd (Z.lim.keeps kp) (D.code.keeps kp) D.body b1 D.clo (λy hy=>?_) (λs₁ X=>?_) (by rw[hsc];exact D.co) (by rw[hsc];exact D.gen) f1)
 ·rcases b2 y hy with e | e
  ·exact .inl (by rw[hsc];exact e)
  ·have e':fd.scope.names.lookup y.1=some .cell:=by rw[hsc];exact e
   exact .inr ⟨e',isC _ e'⟩
 have f2:(fd.scope.names.map (·.1)).Nodup:=by rw[hsc];exact D.nod
 have f3:∀x∈fd.scope.names.map (·.1),fd.scope.names.lookup x≠some .globalImplicit→(x==("__debug__" : Str))=false:=by rw[hsc];exact D.dbg
 have f4:∀x y c,(callEnvC fd s.heap.objs.size a).cells.lookup x=some c→(callEnvC fd s.heap.objs.size a).cells.lookup y=some c→x=y:=λx y c e1 e2=>name_of_addr X.apart (mem_of_lookup e1) (mem_of_lookup e2)
 have f5:∀y,fd.scope.names.lookup y=some .cell→∃c,(callEnvC fd s.heap.objs.size a).cells.lookup y=some c:=λy e=>isSome_iff_exists.mp (isC y e)
 let F':Fi:=⟨callEnvC fd s.heap.objs.size a,f1,D.glob,D.blt,f2,f3,f4,λ_=>False,fd.scope,rfl,λ_=>.inl rfl,λ_ h=>h.elim,f5⟩
 have hkind:∀y,F'.env.kindOf y=fn.sc.names.lookup y:=λy=>by show fd.scope.names.lookup y=_;rw[hsc]
 have fresh:∀{b:Addr},s.heap.objs.size≤b→s.heap.get? b=none:=λh=>B0 h
 refine Kt X.done λh₁ tk hs₁ hkp=>?_
 have xr:Bm Z P B φ F' ⟨loc,cel⟩ s₁:=by
  rw[hs₁]
  rw[hs₁]at X
  refine⟨x.grow (Azw x.base.sub hkp),x.base.sub.none (fresh (le_refl _)),x.base.prot.none (fresh (le_refl _)),⟨_,X.toInCall.ns,λi y v e1 e2=>?_⟩,λy c e1 e2=>?_,?_⟩
  ·have e1':(fn.sc.names.map (·.1))[i]? = some y:=by
    have:(fd.scope.names.map (·.1))[i]? = some y:=e1
    rwa [hsc]at this
   refine Aj (b3 i y v e1' e2) λcv c1 c2=>?_
   refine⟨cv,?_,c2⟩
   rcases b2 _ (mem_reverse.mp (Av c1))with e | e
   ·have hk:F'.env.kindOf y=some .local:=by rw[hkind];exact e
    refine .inl ⟨hk,?_⟩
    rw[show(callEnvC fd s.heap.objs.size a).kindOf=F'.env.kindOf from rfl,Sa hk,c1]
    rfl
   ·have hk:F'.env.kindOf y=some .cell:=by rw[hkind];exact e
    refine xe (f5 y hk) λc hc=>?_
    refine .inr (.inl ⟨hk,c,hc,?_⟩)
    have:=X.cell y c hc
    rw[show(callEnvC fd s.heap.objs.size a).kindOf=F'.env.kindOf from rfl,Rx (by rw[hk];simp),c1]at this
    exact this
  ·have hlt:s.heap.objs.size < c:=X.above y c (mem_of_lookup e2)
   have hn:=fresh (le_of_lt hlt)
   exact⟨.inl ⟨λh=>h,x.base.sub.none hn,x.base.prot.none hn⟩,_,X.cell y c e2⟩
  ·rw[Dp hb]
   show _=(fd.scope.names.map (·.1)).length
   rw[hsc]
 have:=h F' hsc (A.deeper F'.env) P B φ _ (λf s'=>Q (match f with | .ret v=>v | _=>.none) s') (λe s'=>wpAny Z.M (A.deeper F'.env) (leaving F'.env e) (λ_ s''=>E e s'') (λe' s''=>E e' s'') s') (hA.deeper _) xr λB' φ' s' r y m z=>?_
 ·exact this
 ·rcases hfl with rfl | ⟨v,rfl⟩
  ·have z:r = .next:=z
   subst z
   exact q B' φ' s' _ y.toH m rfl
  ·refine Aj z λcv z1 hv=>?_
   clear z
   subst z1
   exact q B' φ' s' _ y.toH m hv
structure A9(Z:Bz)(a:Addr)(fn:B6)(fd:FuncData):Prop where
 obj:∃o,Z.s₀.heap.get? a=some o∧o.data = .func fd
 code:Z.s₀.heap.CodeRec fd.code fd.qualname
 body:fd.body = .stmts fn.body
 sc:fd.scope=fn.sc
 glob:fd.globals=mainGlobals
 blt:fd.builtins=builtinsNs
 clo:fd.closure=[]
 fun_:fn.sc.kind = .function
 co:fn.sc.isCoroutine=false
 gen:fn.sc.isGenerator=false
 nod:(fn.sc.names.map (·.1)).Nodup
 dbg:∀x∈fn.sc.names.map (·.1),fn.sc.names.lookup x≠some .globalImplicit→(x==("__debug__" : Str))=false
 cell:∀x∈fn.sc.names,x.2≠.cell
theorem Vw{a:Addr}{fn:B6}{fd:FuncData}(D:A9 Z a fn fd){args:Args}{loc:List (Option AV)}{cel:List Ad}{fl:Fl}{σ':St}(hlen:loc.length=(fn.sc.names.map (·.1)).length)
  (hfl:fl = .next∨∃v,fl = .ret v) (h:∀F:Fi,F.sc=fn.sc→XS Z k F fn.body ⟨loc,cel⟩ fl σ') {A:Around} {P B:Aa} {φ:List Addr} {s:Shared} {Q E:Value→Shared→Prop} (hA:Dk (k+1) A) (x:B7 Z P B φ cel s)
  (hbind:∀(Q:List (Str×Value)→Shared→Prop) (E:Value→Shared→Prop),(∀binds B' s',B7 Z P B' φ cel s'→Bj P B B' φ φ→(∀x∈binds,fn.sc.names.lookup x.1=some .local)→
   (∀(i:Nat) x v,(fn.sc.names.map (·.1))[i]? = some x→loc[i]? = some (some v)→∃cv,binds.reverse.lookup x=some cv∧VR Z B' φ v cv)→Q binds s')→wpAny Z.M A.in1 (PySem.bindArgs fd args) Q E s)
  (q:∀B' φ' s' cv,B7 Z P B' φ' σ'.cel s'→Bj P B B' φ φ'→VR Z B' φ' fl.val cv→Q cv s'):wpAny Z.M A (call (.ref a) args.pos args.kw) Q E s:=by
 refine Aj D.obj λo ho hd=>?_
 have kp:=x.base.g
 have hsc:=D.sc
 have hcell:=D.cell
 refine wpAny_call (codeAny_call_function hA.depth (kp _ _ ho) hd (by rw[hsc];exact D.co) (by rw[hsc];exact D.gen) D.body (D.code.keeps kp) (hbind _ _ λbinds B₁ s₁ x₁ m₁ b2 b3=>?_))
 have kp₁:=x₁.base.g
 refine wpAny_newFunctionEnv (by rw[hsc];exact hcell) (by rw[hsc];exact b2) (λh₁ hns hsb=>⟨(Z.lim.keeps kp₁).fresh _ hsb,codeAny_func ?_⟩) (by rw[hsc];exact D.fun_)
 have hkp:Bo s₁.heap h₁:=λb o e=>hsb.extBut b o (ne_of_lt (Heap.lt_size e)) (Heap.get?_push_of_some _ e)
 have f1:fd.scope.kind = .function:=by rw[hsc];exact D.fun_
 have f2:(fd.scope.names.map (·.1)).Nodup:=by rw[hsc];exact D.nod
 have f3:∀x∈fd.scope.names.map (·.1),fd.scope.names.lookup x≠some .globalImplicit→(x==("__debug__" : Str))=false:=by rw[hsc];exact D.dbg
 have f4:∀x y c,fd.closure.lookup x=some c→fd.closure.lookup y=some c→x=y:=λx y c e=>by rw[D.clo]at e;exact Am e
 have f5:∀y,fd.scope.names.lookup y=some .cell→∃c,fd.closure.lookup y=some c:=λy e=>by
  rw[hsc]at e
  exact absurd rfl (hcell _ (Av e))
 let F':Fi:=⟨callEnv fd s₁.heap.objs.size a,f1,D.glob,D.blt,f2,f3,f4,λ_=>False,fd.scope,rfl,λ_=>.inl rfl,λ_ h=>h.elim,f5⟩
 have hn:s₁.heap.get? s₁.heap.objs.size=none:=B0 (le_refl _)
 have hkind:∀y,F'.env.kindOf y=fn.sc.names.lookup y:=λy=>by show fd.scope.names.lookup y=_;rw[hsc]
 have xr:Bm Z P B₁ φ F' ⟨loc,cel⟩ {s₁ with heap:=h₁,toks:=s₁.toks+binds.length}:=by
  refine⟨x₁.grow (Azw x₁.base.sub hkp),x₁.base.sub.none hn,x₁.base.prot.none hn,⟨_,hns,λi y v e1 e2=>?_⟩,λy c e1 e2=>?_,?_⟩
  ·have e1':(fn.sc.names.map (·.1))[i]? = some y:=by
    have:(fd.scope.names.map (·.1))[i]? = some y:=e1
    rwa [hsc]at this
   refine Aj (b3 i y v e1' e2) λcv c1 c2=>?_
   refine⟨cv,.inl ⟨?_,c1⟩,c2⟩
   rw[hkind]
   exact b2 _ (mem_reverse.mp (Av c1))
  ·exfalso
   rw[hkind]at e1
   exact hcell _ (Av e1) rfl
  ·rw[hlen]
   show _=(fd.scope.names.map (·.1)).length
   rw[hsc]
 have:=h F' hsc (A.deeper F'.env) P B₁ φ _ (λf s'=>Q (match f with | .ret v=>v | _=>.none) s') (λe s'=>wpAny Z.M (A.deeper F'.env) (leaving F'.env e) (λ_ s''=>E e s'') (λe' s''=>E e' s'') s') (hA.deeper _) xr λB' φ' s' r y m z=>?_
 ·exact this
 ·rcases hfl with rfl | ⟨v,rfl⟩
  ·have z:r = .next:=z
   subst z
   exact q B' φ' s' _ y.toH (m₁.trans m) rfl
  ·refine Aj z λcv z1 hv=>?_
   clear z
   subst z1
   exact q B' φ' s' _ y.toH (m₁.trans m) hv
structure O4(Z:Bz)(fn:B6)(fd:FuncData):Prop where
 parts:A9 Z 198 fn fd
 bind:∀(args:List AV) (loc:List (Option AV)),Mine.bindArgs fn args=some loc→∀(B:Aa) (φ:List Addr) (a b c:Value),H2 Z B φ args [a,b,c]→
  ∃binds,PySem.bindArgs fd ⟨[a,b],[("name",c)]⟩=pure binds∧(∀x∈binds,fn.sc.names.lookup x.1=some .local)∧
   ∀(i:Nat) x v,(fn.sc.names.map (·.1))[i]? = some x→loc[i]? = some (some v)→∃cv,binds.reverse.lookup x=some cv∧VR Z B φ v cv
structure Ps(Z:Bz)(a:Addr)(fn:B6)(fd:FuncData):Prop where
 parts:A9 Z a fn fd
 bind:∀(args:List AV) (loc:List (Option AV)),Mine.bindArgs fn args=some loc→∀(vals:List Value),vals.length=args.length→
  ∃mk:Addr→List (Str×Value),(∀(M:Model) (A:Around) (E:Value→Shared→Prop) (s:Shared) (Q:List (Str×Value)→Shared→Prop),Q (mk s.heap.objs.size) {s with heap:=s.heap.push {cls:=.type "dict",data:=.dict #[]}}→wpAny M A (PySem.bindArgs fd ⟨vals,[]⟩) Q E s)∧
   (∀d,∀x∈mk d,fn.sc.names.lookup x.1=some .local)∧
   ∀(B:Aa) (φ:List Addr) d,H2 Z B φ args vals→VR Z B φ (.dstr []) (.ref d)→∀(i:Nat) x v,(fn.sc.names.map (·.1))[i]? = some x→loc[i]? = some (some v)→∃cv,(mk d).reverse.lookup x=some cv∧VR Z B φ v cv
def Ar4(Z:Bz)(FT:List (Addr×B6)):Prop:=(∀a fn,a≠198→FT.lookup a=some fn→∃fd,(B9 Z a fn fd∧∀x∈fn.sc.names,x.2≠.cell)∨Md Z a fn fd∨Ps Z a fn fd)∧∀fn,FT.lookup 198=some fn→∃fd,O4 Z fn fd
structure Aaa(Z:Bz)(hd:Addr):Prop where
 call:∀k cel,CL Z (k+2) (.ref hd) [] cel (.hdr cel.length) (cel++[.m []])
 who:L8 Z (.ref hd)
variable {G:List (Str×AV)} {FT:List (Addr×B6)} {hd:Addr} {mN:Str→Option Value}
set_option tactic.hygienic true in
theorem Xx:Yv Z k (U3 G N FT hd 0):=by
 constructor<;>(intros;rename_i h;exact Am h)
theorem Jr{N:Nat}{C:B8}{fn:B6}{args:List AV}{cel:List Ad}{v:AV}{cel':List Ad}(h:Fp G N C fn args cel=some (v,cel')):
  ∃loc fl σ',Mine.bindArgs fn args=some loc∧(Ba G C N).ss fn.sc fn.body ⟨loc,cel⟩=some (fl,σ')∧(fl = .next∨∃v,fl = .ret v)∧v=fl.val∧cel'=σ'.cel:=by
 unfold Fp at h
 refine Ay h λloc h1 h=>?_
 refine Ay h λw h2 h=>?_
 obtain⟨fl,σ'⟩:=w
 induction fl with
 | next=>refine Bi h ?_;exact⟨loc,_,σ',h1,h2,.inl rfl,rfl,rfl⟩
 | ret v=>refine Bi h ?_;exact⟨loc,_,σ',h1,h2,.inr ⟨_,rfl⟩,rfl,rfl⟩
 | brk=>exact Am h
 | cont=>exact Am h
theorem Afb{a:Addr}{fn:B6}{fd:FuncData}(D:Ps Z a fn fd){args:List AV}{loc:List (Option AV)}{cel:List Ad}{fl:Fl}{σ':St}(hb:Mine.bindArgs fn args=some loc)
  (hfl:fl = .next∨∃v,fl = .ret v) (h:∀F:Fi,F.sc=fn.sc→XS Z k F fn.body ⟨loc,cel⟩ fl σ'):CL Z (k+1) (.ref a) args cel fl.val σ'.cel:=by
 intro A P B φ s vals Q E hA x va q
 refine D7 (D.bind args loc hb vals va.length) λmk b1 b2 b3=>?_
 refine Vw D.parts (args:=⟨vals,[]⟩) (Dp hb) hfl h hA x (λQ' E' hq=>b1 _ _ _ _ _ ?_) q
 refine xa (x.putB {cls:=.type "dict",data:=.dict #[]} rfl s.toks) λy1 y2=>?_
 refine hq _ _ _ y1 y2 (b2 _) (b3 _ _ _ (va.mono y2) ⟨_,rfl,?_⟩)
 have hsm:(s.heap.objs.size==sysModules)=false:=by
  refine Ip Z.g λoo es ep h1 _=>?_
  have:(3:Nat) < s.heap.objs.size:=Heap.lt_size (x.base.g _ _ h1)
  refine beq_eq_false_iff_ne.mpr λz=>?_
  rw[z]at this
  exact absurd this (by decide)
 have hdn:(s.heap.push {cls:=.type "dict",data:=.dict #[]}).DictOf (PySem.strKind Z.prog Z.w) s.heap.objs.size []:=Heap.DictOf.new s.heap
 refine Aj (Heap.dictOf_iff.mp hdn) λoo hoo hx=>?_
 have e0:(s.heap.push {cls:=.type "dict",data:=.dict #[]}).get? s.heap.objs.size=some {cls:=.type "dict",data:=.dict #[]}:=Heap.get?_push_size _ rfl
 rw[e0]at hoo
 refine spr hoo ?_
 exact⟨λ_=>none,_,Azk _ _ _,hsm,λh e=>(Heap.dictOf_iff.mpr ⟨_,e,hx⟩).mapOf,λy=>rfl⟩
theorem Af3{fn:B6}{fd:FuncData}(D:O4 Z fn fd){args:List AV}{loc:List (Option AV)}{cel:List Ad}{fl:Fl}{σ':St}(hb:Mine.bindArgs fn args=some loc)
  (hfl:fl = .next∨∃v,fl = .ret v) (h:∀F:Fi,F.sc=fn.sc→XS Z k F fn.body ⟨loc,cel⟩ fl σ'):CLK Z (k+1) args cel fl.val σ'.cel:=by
 intro A P B φ s a b c Q E hA x va q
 refine D7 (D.bind args loc hb B φ a b c va) λbinds b1 b2 b3=>?_
 refine Vw D.parts (args:=⟨[a,b],[("name",c)]⟩) (Dp hb) hfl h hA x (λQ' E' hq=>?_) q
 rw[b1]
 exact wpAny_pure (hq binds B s x (.refl B φ) b2 b3)
set_option tactic.hygienic true in
theorem Rv(hG:Jg Z G)(hF:Ar4 Z FT)(hN:Aaa Z hd)(hPat:Gv Z)(H:Fw Z mN)(N:Nat):∀n,Yv Z (n+2) (U3 G N FT hd n)
 | 0=>Xx
 | n+1=>by
  have hC:=Rv hG hF hN hPat H N n
  have S:=Pq hG hC hPat H N N (le_refl _)
  have body:∀{fn:B6} {loc:List (Option AV)} {cel:List Ad} {fl:Fl} {σ':St},(Ba G (U3 G N FT hd n) N).ss fn.sc fn.body ⟨loc,cel⟩=some (fl,σ')→∀F:Fi,F.sc=fn.sc→XS Z (n+2) F fn.body ⟨loc,cel⟩ fl σ':=λh F hFs=>S.ss F _ _ _ _ (hFs▸h)
  refine⟨λf args cel v cel' hf h=>?_,λf args cel v cel' hf h=>?_,λargs cel v cel' h=>?_⟩
  ·revert hf
   refine Vl (P:=λf=>R4 f=true→CL Z (n+1+2) f args cel v cel') h (λ_ h _=>Ui h) (λ_ h _=>Vz h) (λ_ _ _ hf=>Ff hf) (λh1 h _=>?_) λa fn h1 h2 h3 h _=>?_
   ·rw[h1];refine Bi h ?_;exact hN.call (n+1) _
   ·refine E3 (Jr h) λloc fl σ' h4 h5 h6 z z1=>?_
    subst z
    subst z1
    refine xe (hF.1 a fn h2 h3) λfd D=>?_
    rcases D with⟨D,hc⟩ | D | D
    ·exact Amh D hc h4 h6 (body h5)
    ·exact Ahr D h4 h6 (body h5)
    ·exact Afb D h4 h6 (body h5)
  ·revert hf
   refine Vl (P:=λf=>R4 f=true→L8 Z f) h (λ_ _ _=>.inl ⟨_,rfl⟩) (λ_ _ _=>.inr (.inl ⟨_,rfl⟩)) (λ_ _ _ hf=>Ff hf) (λ_ _ _=>hN.who) λa fn _ h2 h3 _ _=>?_
   refine xe (hF.1 a fn h2 h3) λfd D=>?_
   have k:(∃o,Z.s₀.heap.get? a=some o∧o.data = .func fd)→L8 Z (.ref a):=λh=>Aj h λo h1 h2=>.inr (.inr (.inl ⟨a,o,fd,rfl,h1,h2⟩))
   rcases D with⟨D,hc⟩ | D | D
   ·exact k D.obj
   ·exact k D.obj
   ·exact k D.parts.obj
  ·refine Ay (show(FT.lookup 198).bind _=_ from h) λfn hfn h=>?_
   refine E3 (Jr h) λloc fl σ' h1 h2 h3 z z1=>?_
   subst z
   subst z1
   refine xe (hF.2 fn hfn) λfd D=>?_
   exact Af3 D h1 h3 (body h2)
end
section
variable {Z:Bz} {k:Nat} {F:Fi} {σ σ₁ σ₂ σ₃:St}
theorem W8{a:Addr}{fn:B6}{fd:FuncData}(D:B9 Z a fn fd)(hcell:∀x∈fn.sc.names,x.2≠.cell){args:List AV}{loc:List (Option AV)}{cel:List Ad}(hb:Mine.bindArgs fn args=some loc)
  {A:Around} {P B:Aa} {φ:List Addr} {s:Shared} {vals:List Value} {Q E:Value→Shared→Prop} (hd:A.depth < recursionLimit) (x:B7 Z P B φ cel s) (va:H2 Z B φ args vals)
  (go:∀(F':Fi) (s₁:Shared),F'.sc=fn.sc→Bm Z P B φ F' ⟨loc,cel⟩ s₁→Bo s.heap s₁.heap→wpAny Z.M (A.deeper F'.env) (execs fn.body F'.env) (λf s'=>Q (match f with | .ret v=>v | _=>.none) s')
   (λe s'=>wpAny Z.M (A.deeper F'.env) (leaving F'.env e) (λ_ s''=>E e s'') (λe' s''=>E e' s'') s') s₁):wpAny Z.M A (call (.ref a) vals) Q E s:=by
 refine Aj D.obj λo ho hd'=>?_
 have kp:=x.base.g
 refine D7 (D.bind args loc hb B φ vals s kp va x.base.old) λbinds b1 b2 b3=>?_
 have hsc:=D.sc
 refine wpAny_call (codeAny_call_def hd (kp _ _ ho) hd' (Z.lim.keeps kp) (D.code.keeps kp) D.body b1 (by rw[hsc];exact hcell) (by rw[hsc];exact b2) (λh₁ hns hkp=>?_) (by rw[hsc];exact D.co) (by rw[hsc];exact D.gen) (by rw[hsc];exact D.fun_))
 have f1:fd.scope.kind = .function:=by rw[hsc];exact D.fun_
 have f2:(fd.scope.names.map (·.1)).Nodup:=by rw[hsc];exact D.nod
 have f3:∀x∈fd.scope.names.map (·.1),fd.scope.names.lookup x≠some .globalImplicit→(x==("__debug__" : Str))=false:=by rw[hsc];exact D.dbg
 have f4:∀x y c,fd.closure.lookup x=some c→fd.closure.lookup y=some c→x=y:=λx y c e=>by rw[D.clo]at e;exact Am e
 have f5:∀y,fd.scope.names.lookup y=some .cell→∃c,fd.closure.lookup y=some c:=λy e=>by
  rw[hsc]at e
  exact absurd rfl (hcell _ (Av e))
 let F':Fi:=⟨callEnv fd s.heap.objs.size a,f1,D.glob,D.blt,f2,f3,f4,λ_=>False,fd.scope,rfl,λ_=>.inl rfl,λ_ h=>h.elim,f5⟩
 have hn:s.heap.get? s.heap.objs.size=none:=B0 (le_refl _)
 have hkind:∀y,F'.env.kindOf y=fn.sc.names.lookup y:=λy=>by show fd.scope.names.lookup y=_;rw[hsc]
 have xr:Bm Z P B φ F' ⟨loc,cel⟩ {s with heap:=h₁,toks:=s.toks+binds.length}:=by
  refine⟨x.grow (Azw x.base.sub hkp),x.base.sub.none hn,x.base.prot.none hn,⟨_,hns,λi y v e1 e2=>?_⟩,λy c e1 e2=>?_,?_⟩
  ·have e1':(fn.sc.names.map (·.1))[i]? = some y:=by
    have:(fd.scope.names.map (·.1))[i]? = some y:=e1
    rwa [hsc]at this
   refine Aj (b3 i y v e1' e2) λcv c1 c2=>?_
   refine⟨cv,.inl ⟨?_,c1⟩,c2⟩
   rw[hkind]
   exact b2 _ (mem_reverse.mp (Av c1))
  ·exfalso
   rw[hkind]at e1
   exact hcell _ (Av e1) rfl
  ·rw[Dp hb]
   show _=(fd.scope.names.map (·.1)).length
   rw[hsc]
 exact go F' _ hsc xr hkp
theorem B7.putP(x:B7 Z P B φ cel s)(hC:s.heap.get? C=some o)(hl:∀vs n,o≠Bp vs n)(hP:P C=none):B7 Z (P.put C o) B φ cel s:=by
 refine⟨⟨x.base.same,x.base.old,x.base.sub,λb oo e=>?_⟩,⟨x.cells.len,x.cells.ex,λi xs e=>?_,x.cells.fz,x.cells.nod⟩⟩
 ·by_cases z:b=C
  ·subst z;rw[Azk]at e;refine Gc e ?_;exact hC
  ·rw[Azl P _ z]at e;exact x.base.prot b oo e
 ·refine Ar (x.cells.at_ i xs e) λa vs n r1 r2 r3 r4=>?_
  refine⟨a,vs,n,r1,⟨r2.1,?_⟩,r3,r4⟩
  rw[Azl]
  ·exact r2.2
  ·rintro rfl
   rw[hC]at r3;obtain rfl:=Option.some.inj r3
   exact hl _ _ rfl
theorem Qo{t it:Expr}{b:List Stmt}{p:Pos}{i:Nat}(hit:EV Z k F it σ (.cell i) σ₁)(hi:σ₁.cel[i]? = some (.m []))(hs:∀x,foldedSetIterable it F.env x=pure x):EX Z k F (.For t it b [] p) σ .next σ₁:=by
 intro A P B φ s Q E hA x q
 refine wpAny_For (hit A P B φ s _ E hA x λB₁ φ₁ s₁ cv x₁ m₁ e₁=>?_) hs
 refine Aj e₁ λa hφ z=>?_
 clear e₁
 subst z
 refine Ar (x₁.toH.cells.at_ i [] hi) λa' vs n q1 q2 q3 q4=>?_
 rw[hφ]at q1;obtain rfl:=Option.some.inj q1
 have hz:vs = #[]:=by
  exact toList_inj.mp q4
 subst hz
 refine wpAny_pyIter_list (An q3) ?_
 refine Pb (x₁.putNew {cls:=.type "list_iterator",data:=.fields #[.ref a,.int 0 0]} rfl s₁.toks) λy1 y2 y3=>?_
 refine codeAny_forLoop_any (λn s=>s={s₁ with heap:=s₁.heap.push {cls:=.type "list_iterator",data:=.fields #[.ref a,.int 0 0]}}) ?_ 0 rfl
 rintro n s rfl
 have hI:Heap.IsListIter (s₁.heap.push {cls:=.type "list_iterator",data:=.fields #[.ref a,.int 0 0]}) s₁.heap.objs.size a 0:=⟨_,Heap.get?_push_size _ rfl,rfl,rfl⟩
 refine wpAny_pyNext_list_end hA.hd hI ((An q3).push _) (by rfl) λh' he=>?_
 refine wpAny_execs_nil ?_
 exact q B₁ φ₁ _ _ (y1.gone (tk:=s₁.toks) y2 y3 (by intro v e;exact nomatch e) λb oo hb e=>he b oo hb e) m₁ rfl
end
noncomputable def Ci:Str:=⟨⟨[104,101,97,100,101,114,115]⟩⟩
noncomputable def C0:B6:=fnc 0 [(Ci,.d .none)]
noncomputable def G6:B8:=λf args cel=>match f with
 | .type id=>N3 id args cel
 | _=>none
noncomputable abbrev U0(v:Value)(n:Nat):List (Option AV):=[some (.g v),some (.cell n),none,none,none,none,none,none]
theorem X7:∃s1 s2 q q2 q3 q4 n q5 t q6 b q7 q8,C0.body=[s1,s2,.Assign [.Attribute (.Name "self" q) "_headers" q2] (.Name Ci q3) q4,.If (.Constant (.bool true) n q5) [.For t (.Name Ci q6) b [] q7] [] q8]∧
  (∀(v:Value) (cel:List Ad),(Ba G3 G6 400).s C0.sc s1 ⟨[some (.g v),some (.d .none),none,none,none,none,none,none],cel⟩=some (.next,⟨U0 v cel.length,cel++[.m []]⟩))∧
  (∀(v:Value) (m:Nat) (cel:List Ad),(Ba G3 G6 400).s C0.sc s2 ⟨U0 v m,cel⟩=some (.next,⟨U0 v m,cel⟩)):=by
 refine⟨_,_,_,_,_,_,_,_,_,_,_,_,_,rfl,λv cel=>rfl,λv m cel=>rfl⟩
theorem T4:C0.sc.names.map (·.1)=[("self" : Str),Ci,("k" : Str),("v" : Str),("type" : Str),("list" : Str),("TypeError" : Str),("__debug__" : Str)]:=by decide +kernel
structure Aem(Z:Bz)(mN:Str→Option Value):Prop where
 def_:∃fd,B9 Z 191 C0 fd
 cls:∃o,Z.s₀.heap.get? 191=some o∧o.cls = .type "function"
 init:mN "__init__" = some (.ref 191)
 sa:mN "__setattr__" = none
theorem Xv:Yv Z k G6:=by
 refine⟨λf args cel v cel' hf h=>?_,λf args cel v cel' hf h=>?_,λargs cel v cel' h=>by exact Am h⟩
 ·unfold G6 at h
  split at h
  ·exact Vz h
  ·exact Am h
 ·unfold G6 at h
  split at h
  ·exact .inr (.inl ⟨_,rfl⟩)
  ·exact Am h
theorem B7.unP(x:B7 Z (P.put C o) B φ cel s)(hP:P C=none):B7 Z P B φ cel s:=by
 refine⟨⟨x.base.same,x.base.old,x.base.sub,λb oo e=>x.base.prot b oo ?_⟩,⟨x.cells.len,x.cells.ex,λi xs e=>?_,x.cells.fz,x.cells.nod⟩⟩
 ·rw[Azl]
  ·exact e
  ·rintro rfl;rw[hP]at e;exact Am e
 ·refine Ar (x.cells.at_ i xs e) λa vs n r1 r2 r3 r4=>?_
  refine⟨a,vs,n,r1,⟨r2.1,?_⟩,r3,r4⟩
  by_cases z:a=C
  ·subst z;exact hP
  ·have:=r2.2;rwa [Azl P _ z]at this
theorem B7.inB(x:B7 Z P B φ cel s)(hC:s.heap.get? C=some o)(hB:B C=none)(hP:P C=none)(hl:∀vs n,o≠Bp vs n):
  B7 Z P (B.put C o) φ cel s∧Bj P B (B.put C o) φ φ:=by
 have le:=Azv (o:=o) hB
 refine⟨⟨⟨x.base.same,λa o e=>le _ _ (x.base.old a o e),λb oo e=>?_,x.base.prot⟩,⟨x.cells.len,x.cells.ex,λi xs e=>?_,λi xs e=>?_,x.cells.nod⟩⟩,le,λa oo e=>?_,λ_ _ e=>e⟩
 ·by_cases z:b=C
  ·subst z;rw[Azk]at e;refine Gc e ?_;exact hC
  ·rw[Azl B _ z]at e;exact x.base.sub b oo e
 ·refine Ar (x.cells.at_ i xs e) λa vs n r1 r2 r3 r4=>?_
  have:a≠C:=by
   rintro rfl
   rw[hC]at r3;obtain rfl:=Option.some.inj r3
   exact hl _ _ rfl
  exact⟨a,vs,n,r1,⟨by rw[Azl B _ this];exact r2.1,r2.2⟩,r3,r4.mono le⟩
 ·refine Au (x.cells.fz i xs e) λa vs n r1 r2 r3=>?_
  exact⟨a,vs,n,r1,le _ _ r2,r3.mono le⟩
 ·by_cases z:a=C
  ·subst z;exact .inr hP
  ·rw[Azl B _ z]at e;exact .inl e
theorem Ayo{o p:Obj}{dx:Addr}(c:o.cls=p.cls)(d:o.dict=some dx)(d':p.dict=some dx)(dt:o.data=p.data)(sl:o.slots=p.slots):o=p:=by
 obtain⟨a,b,e,f⟩:=o
 obtain⟨a',b',e',f'⟩:=p
 have d:=d.trans d'.symm
 simp only at c d dt sl
 rw[c,d,dt,sl]
theorem Ag1{Z:Bz}{mN:Str→Option Value}(hG:Jg Z G3)(hPat:Gv Z)(H:Fw Z mN)(IO:Aem Z mN)(k:Nat)(cel:List Ad):CL Z (k+2) (.ref 297) [] cel (.hdr cel.length) (cel++[.m []]):=by
 intro A P B φ s vals Q E hA x va q
 refine eqr va.zero ?_
 obtain⟨s1,s2,q1,q2,q3,q4,n,q5,t,q6,b,q7,q8,hbody,i1,i2⟩:=X7
 refine Agf (H.cls.keeps x.base.g) λ_ _ _ _ _ _ _ _ _ _ _ _ hC=>?_
 have hns:=(H.cls.keeps x.base.g).ns
 refine xe IO.def_ λfd D=>?_
 refine Aj IO.cls λoI hoI hcI=>?_
 have hoI':=x.base.g _ _ hoI
 have hPC:∀{a:Addr},s.heap.get? a=none→P a=none:=λh=>x.base.prot.none h
 have hBC:∀{a:Addr},s.heap.get? a=none→B a=none:=λh=>x.base.sub.none h
 obtain⟨hh,g,d,tk,os⟩:=s
 refine wpAny_call_obj_init PySem.F.objNew hC hns IO.init hoI' hcI λh' xx dx Mk=>?_
 have x₁:B7 Z P B φ cel ⟨h',g,d,tk,os⟩:=x.grow (tk:=tk) (Azw x.base.sub Mk.keeps)
 refine Ajd Mk.inst λox hx hcx hncx hdx=>?_
 have hdd:=Mk.dict ox hx
 obtain⟨hne,od,es,ep,hod,hodd,hodr⟩:dx≠xx∧h'.Ns1 dx (λ_=>none):=by
  rcases hdx with⟨hn0,_⟩ | ⟨d',hd',hne,hns'⟩
  ·rw[hn0]at hdd;cases hdd
  ·obtain rfl:=Option.some.inj (hd'.symm.trans hdd);exact⟨hne,hns'⟩
 have nlx:∀vs n,ox≠Bp vs n:=λvs n e=>by rw[e]at hcx;cases hcx
 have nld:∀vs n,od≠Bp vs n:=λvs n e=>by rw[e]at hodd;cases hodd
 have x₂:=x₁.putP hx nlx (hPC Mk.newX)
 have x₃:=x₂.putP (C:=dx) (o:=od) hod nld (by rw[Azl P _ hne];exact hPC Mk.newD)
 have hPx:=hPC Mk.newX
 have hPd:=hPC Mk.newD
 have hPd':(P.put xx ox) dx=none:=by rw[Azl P _ hne];exact hPd
 have hxC:xx≠297:=by
  rintro rfl
  have:=Mk.newX
  rw[hC]at this;cases this
 have S:=Pq (Z:=Z) (k:=0) hG Xv hPat H 400 400 (le_refl _)
 have hb:Mine.bindArgs C0 [.g (.ref xx)]=some [some (.g (.ref xx)),some (.d .none),none,none,none,none,none,none]:=rfl
 have hd1:(A.under (.builtin "type.__call__" ⟨[.ref 297],[]⟩)).depth=A.depth+1:=depth_under_make A 297 []
 have hu1:(A.under (.builtin "type.__call__" ⟨[.ref 297],[]⟩)).units=A.units+1:=rfl
 have hh1:(A.under (.builtin "type.__call__" ⟨[.ref 297],[]⟩)).handled=A.handled:=rfl
 have hAd:=hA.dp
 have hAu:=hA.un
 refine W8 D (by decide +kernel) hb (by rw[hd1];dsimp only[recursionLimit];lia) x₃ (.cons rfl .nil) λF' s₁ hF xr kp=>?_
 have hRoom:Dk 0 ((A.under (.builtin "type.__call__" ⟨[.ref 297],[]⟩)).deeper F'.env):=
  ⟨hA.hd,by show(A.under (.builtin "type.__call__" ⟨[.ref 297],[]⟩)).depth+1+0 < 900;rw[hd1];lia,
   by show(A.under (.builtin "type.__call__" ⟨[.ref 297],[]⟩)).units+3+20*0 < 9000;rw[hu1];lia⟩
 have hnames:F'.names=[("self" : Str),Ci,("k" : Str),("v" : Str),("type" : Str),("list" : Str),("TypeError" : Str),("__debug__" : Str)]:=by
  rw[←T4,←hF];exact F'.msn.symm
 rw[hbody]
 refine wpAny_execs_cons (S.s F' s1 _ _ _ (by rw[hF];exact i1 _ _) _ _ B φ s₁ _ _ hRoom xr λB₁ φ₁ s₂ f y₁ m₁ z₁=>?_)
 have z₁:f = .next:=z₁
 subst z₁
 refine wpAny_execs_cons (S.s F' s2 _ _ _ (by rw[hF];exact i2 _ _ _) _ _ B₁ φ₁ s₂ _ _ hRoom y₁ λB₂ φ₂ s₃ f y₂ m₂ z₂=>?_)
 have z₂:f = .next:=z₂
 subst z₂
 have B2d:B₂ dx=none:=m₂.off (m₁.off (hBC Mk.newD))
 have B2x:B₂ xx=none:=by
  have mm:=(m₁.trans m₂).unput hPd'
  exact mm.off (hBC Mk.newX)
 refine wpAny_execs_cons (plainObj_wpAny_Assign_Attribute ?_)
 refine Kc (k:=0) 1 (by rw[hnames];rfl) (rfl:(U0 (.ref xx) cel.length)[1]? = _) _ _ B₂ φ₂ s₃ _ _ hRoom y₂ λB₃ φ₃ s₄ cl y₃ m₃ vl=>?_
 refine Kc (k:=0) 0 (by rw[hnames];rfl) (rfl:(U0 (.ref xx) cel.length)[0]? = _) _ _ B₃ φ₃ s₄ _ _ hRoom y₃ λB₄ φ₄ s₅ cx y₄ m₄ vx=>?_
 have vx:cx = .ref xx:=vx
 subst vx
 have vl:=vl.mono m₄
 refine Aj vl λl hl z1=>?_
 clear vl
 subst z1
 have B4d:B₄ dx=none:=m₄.off (m₃.off B2d)
 have B4x:B₄ xx=none:=((m₃.trans m₄).unput hPd').off B2x
 have gx:s₅.heap.get? xx=some ox:=y₄.toH.base.prot _ _ (by rw[Azl _ _ (Ne.symm hne),Azk])
 have gd:s₅.heap.get? dx=some od:=y₄.toH.base.prot _ _ (Azk _ _ _)
 have I5:s₅.heap.Inst xx 297 (λ_=>none):=⟨ox,gx,hcx,hncx,.inr ⟨dx,hdd,hne,od,es,ep,gd,hodd,hodr⟩⟩
 refine Agf (H.cls.keeps y₄.toH.base.g) λ_ _ _ _ _ _ _ _ _ _ _ _ hC5=>?_
 have hns5:=(H.cls.keeps y₄.toH.base.g).ns
 have finish:∀(h'':Heap) (tk':Nat),h''.Inst xx 297 (λy=>if y=("_headers" : Str)then some (.ref l)else none)→
   (∀b o,b≠xx→(∀o₀ dx,s₅.heap.get? xx=some o₀→o₀.dict=some dx→b≠dx)→s₅.heap.get? b=some o→h''.get? b=some o)→
   (∀o₀,s₅.heap.get? xx=some o₀→∃o₁,h''.get? xx=some o₁∧o₁.cls=o₀.cls∧o₁.data=o₀.data∧o₁.slots=o₀.slots∧∀dx,o₀.dict=some dx→o₁.dict=some dx)→
   wpAny Z.M ((A.under (.builtin "type.__call__" ⟨[.ref 297],[]⟩)).deeper F'.env) (execs [.If (.Constant (.bool true) n q5) [.For t (.Name Ci q6) b [] q7] [] q8] F'.env)
    (λf s'=>(match f with | .ret v=>v | _=>.none) = .none∧Q (.ref xx) s')
    (λe s'=>wpAny Z.M ((A.under (.builtin "type.__call__" ⟨[.ref 297],[]⟩)).deeper F'.env) (leaving F'.env e) (λ_ s''=>E e s'') (λe' s''=>E e' s'') s') {s₅ with heap:=h'',toks:=tk'}:=by
  intro h'' tk' I' hk hsame
  refine O3 (hsame ox gx) λo₁ e₁ c₁ dt₁ sl₁ dk₁=>?_
  have e₁:h''.get? xx=some ox:=Ayo c₁ (dk₁ dx hdd) hdd dt₁ sl₁▸e₁
  refine Ajd I' λo₂ e₂ _ _ hd₂=>?_
  clear I'
  rw[e₁]at e₂;obtain rfl:=Option.some.inj e₂
  obtain⟨od₁,es₁,ep₁,g₁,gdat,gr⟩:h''.Ns1 dx (λy=>if y=("_headers" : Str)then some (.ref l)else none):=by
   rcases hd₂ with⟨hn0,_⟩ | ⟨d',hd',_,hns'⟩
   ·rw[hdd]at hn0;exact nso hn0
   ·obtain rfl:=Option.some.inj (hdd.symm.trans hd');exact hns'
  have keep:∀b oo,b≠dx→s₅.heap.get? b=some oo→h''.get? b=some oo:=λb oo hb e=>by
   by_cases z:b=xx
   ·subst z;rw[gx]at e;refine Gc e ?_;exact e₁
   ·exact hk b oo z (λo₀ dx' e0 ed=>by rw[gx]at e0;obtain rfl:=Option.some.inj e0;rw[hdd]at ed;refine Gc ed ?_;exact hb) e
  have y₅:=y₄.reput (o':=od₁) (tk:=tk') hPd' B4d (by intro v e;rw[hodd]at e;exact nomatch e) keep g₁
  have hloop:EX Z 0 F' (.If (.Constant (.bool true) n q5) [.For t (.Name Ci q6) b [] q7] [] q8) ⟨U0 (.ref xx) cel.length,cel++[.m []]⟩ .next ⟨U0 (.ref xx) cel.length,cel++[.m []]⟩:=by
   refine Aa3 (c:=true) (Pf Wv rfl) (λ_=>W4 (Qo (i:=cel.length) (Kc 1 (by rw[hnames];rfl) rfl) (by simp) (λx=>rfl)) Aa5) (λe=>by exact J3 e)
  refine wpAny_execs_cons (hloop _ _ B₄ φ₄ _ _ _ hRoom y₅ λB₆ φ₆ s₆ f y₆ m₆ z₆=>?_)
  have z₆:f = .next:=z₆
  subst z₆
  refine wpAny_execs_nil ⟨rfl,?_⟩
  have B6d:B₆ dx=none:=m₆.off B4d
  have B6x:B₆ xx=none:=(m₆.unput hPd').off B4x
  have gx6:s₆.heap.get? xx=some ox:=y₆.toH.base.prot _ _ (by rw[Azl _ _ (Ne.symm hne),Azk])
  have gd6:s₆.heap.get? dx=some od₁:=y₆.toH.base.prot _ _ (Azk _ _ _)
  have nld1:∀vs n,od₁≠Bp vs n:=λvs n e=>by rw[e]at gdat;exact nomatch gdat
  have w₁:=(y₆.toH.unP hPd').unP hPx
  refine xa (w₁.inB gx6 B6x hPx nlx) λw₂ n₂=>?_
  refine xa (w₂.inB gd6 (by rw[Azl B₆ _ hne];exact B6d) hPd nld1) λw₃ n₃=>?_
  have mAll:Bj P B _ φ φ₆:=((((((m₁.trans m₂).trans (m₃.trans m₄)).unput hPd').unput hPx).trans ((m₆.unput hPd').unput hPx)).trans n₂).trans n₃
  refine q _ _ _ _ w₃ mAll ⟨xx,l,m₆.pre _ _ hl,rfl,dx,od₁,ox,?_,hcx,hdd,hncx,hne,Azk _ _ _,λh e=>⟨od₁,es₁,ep₁,e,gdat,gr⟩⟩
  rw[Azl _ _ (Ne.symm hne),Azk]
 obtain⟨hh5,g5,d5,t5,os5⟩:=s₅
 exact store_attr PySem.F.store_object hC5 hns5 IO.sa H.hd L9 hxC I5 (λh'' tk' I' hk hsame=>finish h'' tk' I' hk hsame) (ns:=[])
inductive PR(Z:Bz)(B:Aa)(φ:List Addr):List (Str×AV)→List (Str×Value)→Prop
 | nil:PR Z B φ [] []
 | cons {x:Str} {v:AV} {cv:Value} {l:List (Str×AV)} {m:List (Str×Value)}:VR Z B φ v cv→PR Z B φ l m→PR Z B φ ((x,v)::l) ((x,cv)::m)
section
variable {Z:Bz} {B:Aa} {φ:List Addr}
theorem PR.keys(h:PR Z B φ l m):m.map (·.1)=l.map (·.1):=by
 induction h with
 | nil=>rfl
 | cons _ _ ih=>simp[ih]
theorem PR.zip{ps:List Str}:∀{args:List AV} {vals:List Value},H2 Z B φ args vals→PR Z B φ (ps.zip args) (ps.zip vals):=by
 induction ps with
 | nil=>intro args vals h;simp;exact .nil
 | cons p ps ih=>
  intro args vals h
  cases h with
  | nil=>simp;exact .nil
  | cons h1 h2=>exact .cons h1 (ih h2)
theorem PR.append(h:PR Z B φ l m)(h':PR Z B φ l' m'):PR Z B φ (l++l') (m++m'):=by
 induction h with
 | nil=>exact h'
 | cons h1 _ ih=>exact .cons h1 ih
theorem H0{α:Type}:∀{l:List (Str×α)} (h:(l.map (·.1)).Nodup) (x:Str),l.reverse.lookup x=l.lookup x
 | [],_,_=>rfl
 | (y,v)::l,h,x=>by
  rw[map_cons,nodup_cons]at h
  have ih:=H0 h.2 x
  rw[reverse_cons,lookup_append,ih]
  by_cases e:x=y
  ·subst e
   have:l.lookup x=none:=by
    cases q:l.lookup x with
    | none=>rfl
    | some u=>exact absurd (mem_map_of_mem (f:=(·.1)) (Av q)) h.1
   rw[this]
   simp[List.lookup]
  ·have e':(x==y)=false:=by simpa using e
   simp only[List.lookup,e']
   cases l.lookup x<;>rfl
theorem PR.lookup(h:PR Z B φ l m)(e:l.lookup x=some v):∃cv,m.lookup x=some cv∧VR Z B φ v cv:=by
 induction h with
 | nil=>exact Am e
 | @cons y u cv l m h1 _ ih=>
  simp only[List.lookup]at e⊢
  split at e
  ·rename_i hy
   refine Gc e ?_
   exact⟨cv,rfl,h1⟩
  ·exact ih e
theorem Fq{fn:B6}{args:List AV}{loc:List (Option AV)}{binds:List (Str×Value)}(hb:Mine.bindArgs fn args=some loc)(h:PR Z B φ (fn.params.zip args++fn.dflt) binds)(hn:((fn.params.zip args++fn.dflt).map (·.1)).Nodup):
  ∀(i:Nat) x v,(fn.sc.names.map (·.1))[i]? = some x→loc[i]? = some (some v)→∃cv,binds.reverse.lookup x=some cv∧VR Z B φ v cv:=by
 intro i x v e1 e2
 unfold Mine.bindArgs at hb
 split at hb
 ·obtain rfl:=Option.some.inj hb
  rw[getElem?_map]at e1 e2
  refine Ch e1 λp hp z=>?_
  clear e1
  subst z
  rw[hp]at e2
  simp only[map_some,Option.some.injEq]at e2
  have e3:(fn.params.zip args++fn.dflt).lookup p.1=some v:=by
   rw[lookup_append]
   cases q:(fn.params.zip args).lookup p.1 with
   | none=>rw[q]at e2;exact e2
   | some u=>rw[q]at e2;exact e2
  rw[H0 (by rw[h.keys];exact hn)]
  exact h.lookup e3
 ·exact Am hb
theorem Iy{fn:B6}{args:List AV}{loc:List (Option AV)}(hb:Mine.bindArgs fn args=some loc):
  args.length≤fn.params.length∧(fn.params.drop args.length).all (λp=>(fn.dflt.lookup p).isSome)=true∧((fn.params.take args.length).all (λp=>(fn.dflt.lookup p).isNone)=true∨args.length=4):=by
 unfold Mine.bindArgs at hb
 split at hb
 ·assumption
 ·exact Am hb
theorem Hm{fn:B6}{args:List AV}{loc:List (Option AV)}(hb:Mine.bindArgs fn args=some loc)(hd:∀p∈fn.params,fn.dflt.lookup p=none):args.length=fn.params.length:=by
 refine Pb (Iy hb) λh1 h2 _=>?_
 by_cases h:args.length=fn.params.length
 ·exact h
 ·exfalso
  have hlt:args.length < fn.params.length:=by exact lt_of_le_of_ne ‹_› ‹_›
  rw[drop_eq_getElem_cons hlt,all_cons,Bool.and_eq_true]at h2
  rw[hd _ (getElem_mem hlt)]at h2
  exact absurd h2.1 (by simp)
theorem A9.ok{a:Addr}{fn:B6}{fd:FuncData}(D:A9 Z a fn fd)(hd:fn.dflt=[])(hn:fn.params.Nodup)(hk:∀x∈fn.params,fn.sc.names.lookup x=some .local)
  (hb:∀vals:List Value,vals.length=fn.params.length→PySem.bindArgs fd ⟨vals,[]⟩=pure (fn.params.zip vals)):B9 Z a fn fd:=
 ⟨D.obj,D.code,D.body,D.sc,D.glob,D.blt,D.clo,D.fun_,D.co,D.gen,D.nod,D.dbg,λargs loc hbind B φ vals s kp va old=>by
  have hl:=Hm hbind (λp _=>by rw[hd];rfl)
  have hz:((fn.params.zip args++fn.dflt).map (·.1))=fn.params:=by rw[hd,append_nil,Hc hl.symm]
  refine⟨fn.params.zip vals,.of_eq (hb vals (by rw[va.length,hl])),λx hx=>hk _ (of_mem_zip hx).1,?_⟩
  exact Fq hbind (by rw[hd,append_nil];exact PR.zip va) (by rw[hz];exact hn)⟩
end
noncomputable def Aq(o:Obj):FuncData:=match o.data with
 | .func fd=>fd
 | _=>{name :="",qualname :="",params:=⟨[],[],none,[],[],none,[]⟩,body:=.stmts [],scope:=default,globals:=0,closure:=[],defaults:=.none,kwdefaults:=.none,doc:=.none}
theorem Akl(g:Nat→Obj)(w:World):(Ae g w).isNs cStatics=true:=by kernel_rfl
theorem Ahz(g:Nat→Obj)(w:World):(Ae g w).nsMap cStatics "sys.recursionlimit" = none:=by kernel_rfl
noncomputable def A0(g:Nat→Obj)(w:World)(os:OsState):Bz where
 prog:=A6
 w:=w
 s₀:=Hn g w os
 mg:=(Ae g w).nsMap mainGlobals
 mb:=(Ae g w).nsMap builtinsNs
 g:=.of_isNs (Pe g w)
 b:=.of_isNs (Aaj g w)
 lim:=⟨_,.of_isNs (Akl g w),Ahz g w⟩
theorem Hp(h:l.length=1):∃v0,l=[v0]:=by
 rcases l with(_ | ⟨v0,(_ | ⟨v1,r⟩)⟩)
 all_goals first | exact⟨_,rfl⟩ | (simp at h;done) | (simp at h)
theorem Aml(h:l.length=2):∃v0 v1,l=[v0,v1]:=by
 rcases l with(_ | ⟨v0,(_ | ⟨v1,(_ | ⟨v2,r⟩)⟩)⟩)
 all_goals first | exact⟨_,_,rfl⟩ | (simp at h;done) | (simp at h)
theorem Axs(h:l.length=3):∃v0 v1 v2,l=[v0,v1,v2]:=by
 rcases l with(_ | ⟨v0,(_ | ⟨v1,(_ | ⟨v2,(_ | ⟨v3,r⟩)⟩)⟩)⟩)
 all_goals first | exact⟨_,_,_,rfl⟩ | (simp at h;done) | (simp at h)
theorem Ajr(h:l.length=4):∃v0 v1 v2 v3,l=[v0,v1,v2,v3]:=by
 rcases l with(_ | ⟨v0,(_ | ⟨v1,(_ | ⟨v2,(_ | ⟨v3,(_ | ⟨v4,r⟩)⟩)⟩)⟩)⟩)
 all_goals first | exact⟨_,_,_,_,rfl⟩ | (simp at h;done) | (simp at h)
theorem Azc(h:l.length=8):∃v0 v1 v2 v3 v4 v5 v6 v7,l=[v0,v1,v2,v3,v4,v5,v6,v7]:=by
 rcases l with(_ | ⟨v0,(_ | ⟨v1,(_ | ⟨v2,(_ | ⟨v3,(_ | ⟨v4,(_ | ⟨v5,(_ | ⟨v6,(_ | ⟨v7,(_ | ⟨v8,r⟩)⟩)⟩)⟩)⟩)⟩)⟩)⟩)⟩)
 all_goals first | exact⟨_,_,_,_,_,_,_,_,rfl⟩ | (simp at h;done) | (simp at h)
theorem Ax9(g:Nat→Obj)(w:World):(Ae g w).get? 83=some (Mm w.params):=by kernel_rfl
theorem Akr(g:Nat→Obj)(w:World):(Ae g w).codeRecOk (Aq (Mm w.params)).code (Aq (Mm w.params)).qualname=true:=by kernel_rfl
theorem Ar9:((Az 7 []).sc.names.map (·.1)).Nodup:=by decide +kernel
theorem Aov:∀x∈(Az 7 []).sc.names.map (·.1),(Az 7 []).sc.names.lookup x≠some .globalImplicit→(x==("__debug__" : Str))=false:=by decide +kernel
theorem Ac2:∀x∈(Az 7 []).sc.names,x.2≠.cell:=by decide +kernel
theorem Avf(P:Params)(vals:List Value)(h:vals.length=(Az 7 []).params.length):PySem.bindArgs (Aq (Mm P)) ⟨vals,[]⟩=pure ((Az 7 []).params.zip vals):=by
 refine xe (Hp (h.trans (by decide +kernel:(Az 7 []).params.length=1))) λv0 z=>?_
 subst z
 kernel_rfl
theorem Axv(g:Nat→Obj)(w:World)(os:OsState):B9 (A0 g w os) 83 (Az 7 []) (Aq (Mm w.params)):=
 A9.ok ⟨⟨_,Ax9 g w,rfl⟩,Heap.CodeRec.of_ok (Akr g w),rfl,rfl,rfl,rfl,rfl,by kernel_rfl,by kernel_rfl,by kernel_rfl,Ar9,Aov,Ac2⟩ rfl (by decide +kernel) (by decide +kernel) (Avf w.params)
theorem Asm(g:Nat→Obj)(w:World):(Ae g w).get? 129=some (Kx w.params):=by kernel_rfl
theorem Ah6(g:Nat→Obj)(w:World):(Ae g w).codeRecOk (Aq (Kx w.params)).code (Aq (Kx w.params)).qualname=true:=by kernel_rfl
theorem Alh:((Az 9 []).sc.names.map (·.1)).Nodup:=by decide +kernel
theorem Ak2:∀x∈(Az 9 []).sc.names.map (·.1),(Az 9 []).sc.names.lookup x≠some .globalImplicit→(x==("__debug__" : Str))=false:=by decide +kernel
theorem Vj:∀x∈(Az 9 []).sc.names,x.2≠.cell:=by decide +kernel
theorem Alf(P:Params)(vals:List Value)(h:vals.length=(Az 9 []).params.length):PySem.bindArgs (Aq (Kx P)) ⟨vals,[]⟩=pure ((Az 9 []).params.zip vals):=by
 refine xe (Hp (h.trans (by decide +kernel:(Az 9 []).params.length=1))) λv0 z=>?_
 subst z
 kernel_rfl
theorem Ava(g:Nat→Obj)(w:World)(os:OsState):B9 (A0 g w os) 129 (Az 9 []) (Aq (Kx w.params)):=
 A9.ok ⟨⟨_,Asm g w,rfl⟩,Heap.CodeRec.of_ok (Ah6 g w),rfl,rfl,rfl,rfl,rfl,by kernel_rfl,by kernel_rfl,by kernel_rfl,Alh,Ak2,Vj⟩ rfl (by decide +kernel) (by decide +kernel) (Alf w.params)
theorem Ao9(g:Nat→Obj)(w:World):(Ae g w).get? 139=some (Nk w.params):=by kernel_rfl
theorem Aft(g:Nat→Obj)(w:World):(Ae g w).codeRecOk (Aq (Nk w.params)).code (Aq (Nk w.params)).qualname=true:=by kernel_rfl
theorem Al6:((Az 62 []).sc.names.map (·.1)).Nodup:=by decide +kernel
theorem Akj:∀x∈(Az 62 []).sc.names.map (·.1),(Az 62 []).sc.names.lookup x≠some .globalImplicit→(x==("__debug__" : Str))=false:=by decide +kernel
theorem Vy:∀x∈(Az 62 []).sc.names,x.2≠.cell:=by decide +kernel
theorem Akt(P:Params)(vals:List Value)(h:vals.length=(Az 62 []).params.length):PySem.bindArgs (Aq (Nk P)) ⟨vals,[]⟩=pure ((Az 62 []).params.zip vals):=by
 refine xe (Hp (h.trans (by decide +kernel:(Az 62 []).params.length=1))) λv0 z=>?_
 subst z
 kernel_rfl
theorem Aub(g:Nat→Obj)(w:World)(os:OsState):B9 (A0 g w os) 139 (Az 62 []) (Aq (Nk w.params)):=
 A9.ok ⟨⟨_,Ao9 g w,rfl⟩,Heap.CodeRec.of_ok (Aft g w),rfl,rfl,rfl,rfl,rfl,by kernel_rfl,by kernel_rfl,by kernel_rfl,Al6,Akj,Vy⟩ rfl (by decide +kernel) (by decide +kernel) (Akt w.params)
theorem As6(g:Nat→Obj)(w:World):(Ae g w).get? 146=some (Nv w.params):=by kernel_rfl
theorem Afu(g:Nat→Obj)(w:World):(Ae g w).codeRecOk (Aq (Nv w.params)).code (Aq (Nv w.params)).qualname=true:=by kernel_rfl
theorem Ajn:((Az 63 []).sc.names.map (·.1)).Nodup:=by decide +kernel
theorem Am6:∀x∈(Az 63 []).sc.names.map (·.1),(Az 63 []).sc.names.lookup x≠some .globalImplicit→(x==("__debug__" : Str))=false:=by decide +kernel
theorem Vv:∀x∈(Az 63 []).sc.names,x.2≠.cell:=by decide +kernel
theorem Al3(P:Params)(vals:List Value)(h:vals.length=(Az 63 []).params.length):PySem.bindArgs (Aq (Nv P)) ⟨vals,[]⟩=pure ((Az 63 []).params.zip vals):=by
 refine xe (Hp (h.trans (by decide +kernel:(Az 63 []).params.length=1))) λv0 z=>?_
 subst z
 kernel_rfl
theorem Arn(g:Nat→Obj)(w:World)(os:OsState):B9 (A0 g w os) 146 (Az 63 []) (Aq (Nv w.params)):=
 A9.ok ⟨⟨_,As6 g w,rfl⟩,Heap.CodeRec.of_ok (Afu g w),rfl,rfl,rfl,rfl,rfl,by kernel_rfl,by kernel_rfl,by kernel_rfl,Ajn,Am6,Vv⟩ rfl (by decide +kernel) (by decide +kernel) (Al3 w.params)
theorem Atj(g:Nat→Obj)(w:World):(Ae g w).get? 153=some (M5 w.params):=by kernel_rfl
theorem Ahd(g:Nat→Obj)(w:World):(Ae g w).codeRecOk (Aq (M5 w.params)).code (Aq (M5 w.params)).qualname=true:=by kernel_rfl
theorem Ajz:((Az 64 []).sc.names.map (·.1)).Nodup:=by decide +kernel
theorem Aly:∀x∈(Az 64 []).sc.names.map (·.1),(Az 64 []).sc.names.lookup x≠some .globalImplicit→(x==("__debug__" : Str))=false:=by decide +kernel
theorem V5:∀x∈(Az 64 []).sc.names,x.2≠.cell:=by decide +kernel
theorem Ako(P:Params)(vals:List Value)(h:vals.length=(Az 64 []).params.length):PySem.bindArgs (Aq (M5 P)) ⟨vals,[]⟩=pure ((Az 64 []).params.zip vals):=by
 refine xe (Hp (h.trans (by decide +kernel:(Az 64 []).params.length=1))) λv0 z=>?_
 subst z
 kernel_rfl
theorem Av6(g:Nat→Obj)(w:World)(os:OsState):B9 (A0 g w os) 153 (Az 64 []) (Aq (M5 w.params)):=
 A9.ok ⟨⟨_,Atj g w,rfl⟩,Heap.CodeRec.of_ok (Ahd g w),rfl,rfl,rfl,rfl,rfl,by kernel_rfl,by kernel_rfl,by kernel_rfl,Ajz,Aly,V5⟩ rfl (by decide +kernel) (by decide +kernel) (Ako w.params)
theorem Apd(g:Nat→Obj)(w:World):(Ae g w).get? 308=some (Nz w.params):=by kernel_rfl
theorem Afg(g:Nat→Obj)(w:World):(Ae g w).codeRecOk (Aq (Nz w.params)).code (Aq (Nz w.params)).qualname=true:=by kernel_rfl
theorem Akd:((Az 72 []).sc.names.map (·.1)).Nodup:=by decide +kernel
theorem Akz:∀x∈(Az 72 []).sc.names.map (·.1),(Az 72 []).sc.names.lookup x≠some .globalImplicit→(x==("__debug__" : Str))=false:=by decide +kernel
theorem Vp:∀x∈(Az 72 []).sc.names,x.2≠.cell:=by decide +kernel
theorem Am5(P:Params)(vals:List Value)(h:vals.length=(Az 72 []).params.length):PySem.bindArgs (Aq (Nz P)) ⟨vals,[]⟩=pure ((Az 72 []).params.zip vals):=by
 refine xe (Hp (h.trans (by decide +kernel:(Az 72 []).params.length=1))) λv0 z=>?_
 subst z
 kernel_rfl
theorem Aps(g:Nat→Obj)(w:World)(os:OsState):B9 (A0 g w os) 308 (Az 72 []) (Aq (Nz w.params)):=
 A9.ok ⟨⟨_,Apd g w,rfl⟩,Heap.CodeRec.of_ok (Afg g w),rfl,rfl,rfl,rfl,rfl,by kernel_rfl,by kernel_rfl,by kernel_rfl,Akd,Akz,Vp⟩ rfl (by decide +kernel) (by decide +kernel) (Am5 w.params)
theorem Ast(g:Nat→Obj)(w:World):(Ae g w).get? 315=some (Nw w.params):=by kernel_rfl
theorem Agt(g:Nat→Obj)(w:World):(Ae g w).codeRecOk (Aq (Nw w.params)).code (Aq (Nw w.params)).qualname=true:=by kernel_rfl
theorem Amr:((Az 73 []).sc.names.map (·.1)).Nodup:=by decide +kernel
theorem Ama:∀x∈(Az 73 []).sc.names.map (·.1),(Az 73 []).sc.names.lookup x≠some .globalImplicit→(x==("__debug__" : Str))=false:=by decide +kernel
theorem Wn:∀x∈(Az 73 []).sc.names,x.2≠.cell:=by decide +kernel
theorem Aky(P:Params)(vals:List Value)(h:vals.length=(Az 73 []).params.length):PySem.bindArgs (Aq (Nw P)) ⟨vals,[]⟩=pure ((Az 73 []).params.zip vals):=by
 refine xe (Hp (h.trans (by decide +kernel:(Az 73 []).params.length=1))) λv0 z=>?_
 subst z
 kernel_rfl
theorem Arm(g:Nat→Obj)(w:World)(os:OsState):B9 (A0 g w os) 315 (Az 73 []) (Aq (Nw w.params)):=
 A9.ok ⟨⟨_,Ast g w,rfl⟩,Heap.CodeRec.of_ok (Agt g w),rfl,rfl,rfl,rfl,rfl,by kernel_rfl,by kernel_rfl,by kernel_rfl,Amr,Ama,Wn⟩ rfl (by decide +kernel) (by decide +kernel) (Aky w.params)
theorem Atq(g:Nat→Obj)(w:World):(Ae g w).get? 322=some (Ng w.params):=by kernel_rfl
theorem Aex(g:Nat→Obj)(w:World):(Ae g w).codeRecOk (Aq (Ng w.params)).code (Aq (Ng w.params)).qualname=true:=by kernel_rfl
theorem Alk:((Az 74 []).sc.names.map (·.1)).Nodup:=by decide +kernel
theorem Ak3:∀x∈(Az 74 []).sc.names.map (·.1),(Az 74 []).sc.names.lookup x≠some .globalImplicit→(x==("__debug__" : Str))=false:=by decide +kernel
theorem V0:∀x∈(Az 74 []).sc.names,x.2≠.cell:=by decide +kernel
theorem Ajo(P:Params)(vals:List Value)(h:vals.length=(Az 74 []).params.length):PySem.bindArgs (Aq (Ng P)) ⟨vals,[]⟩=pure ((Az 74 []).params.zip vals):=by
 refine xe (Hp (h.trans (by decide +kernel:(Az 74 []).params.length=1))) λv0 z=>?_
 subst z
 kernel_rfl
theorem Anz(g:Nat→Obj)(w:World)(os:OsState):B9 (A0 g w os) 322 (Az 74 []) (Aq (Ng w.params)):=
 A9.ok ⟨⟨_,Atq g w,rfl⟩,Heap.CodeRec.of_ok (Aex g w),rfl,rfl,rfl,rfl,rfl,by kernel_rfl,by kernel_rfl,by kernel_rfl,Alk,Ak3,V0⟩ rfl (by decide +kernel) (by decide +kernel) (Ajo w.params)
theorem Aqw(g:Nat→Obj)(w:World):(Ae g w).get? 329=some (M3 w.params):=by kernel_rfl
theorem Afs(g:Nat→Obj)(w:World):(Ae g w).codeRecOk (Aq (M3 w.params)).code (Aq (M3 w.params)).qualname=true:=by kernel_rfl
theorem Ala:((Az 75 []).sc.names.map (·.1)).Nodup:=by decide +kernel
theorem Ajq:∀x∈(Az 75 []).sc.names.map (·.1),(Az 75 []).sc.names.lookup x≠some .globalImplicit→(x==("__debug__" : Str))=false:=by decide +kernel
theorem V7:∀x∈(Az 75 []).sc.names,x.2≠.cell:=by decide +kernel
theorem Ak4(P:Params)(vals:List Value)(h:vals.length=(Az 75 []).params.length):PySem.bindArgs (Aq (M3 P)) ⟨vals,[]⟩=pure ((Az 75 []).params.zip vals):=by
 refine xe (Hp (h.trans (by decide +kernel:(Az 75 []).params.length=1))) λv0 z=>?_
 subst z
 kernel_rfl
theorem Awi(g:Nat→Obj)(w:World)(os:OsState):B9 (A0 g w os) 329 (Az 75 []) (Aq (M3 w.params)):=
 A9.ok ⟨⟨_,Aqw g w,rfl⟩,Heap.CodeRec.of_ok (Afs g w),rfl,rfl,rfl,rfl,rfl,by kernel_rfl,by kernel_rfl,by kernel_rfl,Ala,Ajq,V7⟩ rfl (by decide +kernel) (by decide +kernel) (Ak4 w.params)
theorem As8(g:Nat→Obj)(w:World):(Ae g w).get? 336=some (Nm w.params):=by kernel_rfl
theorem Ah5(g:Nat→Obj)(w:World):(Ae g w).codeRecOk (Aq (Nm w.params)).code (Aq (Nm w.params)).qualname=true:=by kernel_rfl
theorem Ak1:((Az 76 []).sc.names.map (·.1)).Nodup:=by decide +kernel
theorem Ak0:∀x∈(Az 76 []).sc.names.map (·.1),(Az 76 []).sc.names.lookup x≠some .globalImplicit→(x==("__debug__" : Str))=false:=by decide +kernel
theorem Wq:∀x∈(Az 76 []).sc.names,x.2≠.cell:=by decide +kernel
theorem Amo(P:Params)(vals:List Value)(h:vals.length=(Az 76 []).params.length):PySem.bindArgs (Aq (Nm P)) ⟨vals,[]⟩=pure ((Az 76 []).params.zip vals):=by
 refine xe (Hp (h.trans (by decide +kernel:(Az 76 []).params.length=1))) λv0 z=>?_
 subst z
 kernel_rfl
theorem Awg(g:Nat→Obj)(w:World)(os:OsState):B9 (A0 g w os) 336 (Az 76 []) (Aq (Nm w.params)):=
 A9.ok ⟨⟨_,As8 g w,rfl⟩,Heap.CodeRec.of_ok (Ah5 g w),rfl,rfl,rfl,rfl,rfl,by kernel_rfl,by kernel_rfl,by kernel_rfl,Ak1,Ak0,Wq⟩ rfl (by decide +kernel) (by decide +kernel) (Amo w.params)
theorem Auo(g:Nat→Obj)(w:World):(Ae g w).get? 343=some (Ny w.params):=by kernel_rfl
theorem Afc(g:Nat→Obj)(w:World):(Ae g w).codeRecOk (Aq (Ny w.params)).code (Aq (Ny w.params)).qualname=true:=by kernel_rfl
theorem Ame:((Az 77 []).sc.names.map (·.1)).Nodup:=by decide +kernel
theorem Alw:∀x∈(Az 77 []).sc.names.map (·.1),(Az 77 []).sc.names.lookup x≠some .globalImplicit→(x==("__debug__" : Str))=false:=by decide +kernel
theorem W2:∀x∈(Az 77 []).sc.names,x.2≠.cell:=by decide +kernel
theorem Aln(P:Params)(vals:List Value)(h:vals.length=(Az 77 []).params.length):PySem.bindArgs (Aq (Ny P)) ⟨vals,[]⟩=pure ((Az 77 []).params.zip vals):=by
 refine xe (Hp (h.trans (by decide +kernel:(Az 77 []).params.length=1))) λv0 z=>?_
 subst z
 kernel_rfl
theorem Aoo(g:Nat→Obj)(w:World)(os:OsState):B9 (A0 g w os) 343 (Az 77 []) (Aq (Ny w.params)):=
 A9.ok ⟨⟨_,Auo g w,rfl⟩,Heap.CodeRec.of_ok (Afc g w),rfl,rfl,rfl,rfl,rfl,by kernel_rfl,by kernel_rfl,by kernel_rfl,Ame,Alw,W2⟩ rfl (by decide +kernel) (by decide +kernel) (Aln w.params)
theorem Arq(g:Nat→Obj)(w:World):(Ae g w).get? 350=some (M6 w.params):=by kernel_rfl
theorem Agg(g:Nat→Obj)(w:World):(Ae g w).codeRecOk (Aq (M6 w.params)).code (Aq (M6 w.params)).qualname=true:=by kernel_rfl
theorem Alv:((Az 78 []).sc.names.map (·.1)).Nodup:=by decide +kernel
theorem Ak5:∀x∈(Az 78 []).sc.names.map (·.1),(Az 78 []).sc.names.lookup x≠some .globalImplicit→(x==("__debug__" : Str))=false:=by decide +kernel
theorem Ww:∀x∈(Az 78 []).sc.names,x.2≠.cell:=by decide +kernel
theorem Amx(P:Params)(vals:List Value)(h:vals.length=(Az 78 []).params.length):PySem.bindArgs (Aq (M6 P)) ⟨vals,[]⟩=pure ((Az 78 []).params.zip vals):=by
 refine xe (Hp (h.trans (by decide +kernel:(Az 78 []).params.length=1))) λv0 z=>?_
 subst z
 kernel_rfl
theorem Ap1(g:Nat→Obj)(w:World)(os:OsState):B9 (A0 g w os) 350 (Az 78 []) (Aq (M6 w.params)):=
 A9.ok ⟨⟨_,Arq g w,rfl⟩,Heap.CodeRec.of_ok (Agg g w),rfl,rfl,rfl,rfl,rfl,by kernel_rfl,by kernel_rfl,by kernel_rfl,Alv,Ak5,Ww⟩ rfl (by decide +kernel) (by decide +kernel) (Amx w.params)
theorem Ath(g:Nat→Obj)(w:World):(Ae g w).get? 357=some (N5 w.params):=by kernel_rfl
theorem Afy(g:Nat→Obj)(w:World):(Ae g w).codeRecOk (Aq (N5 w.params)).code (Aq (N5 w.params)).qualname=true:=by kernel_rfl
theorem Am2:((Az 79 []).sc.names.map (·.1)).Nodup:=by decide +kernel
theorem Alc:∀x∈(Az 79 []).sc.names.map (·.1),(Az 79 []).sc.names.lookup x≠some .globalImplicit→(x==("__debug__" : Str))=false:=by decide +kernel
theorem Wo:∀x∈(Az 79 []).sc.names,x.2≠.cell:=by decide +kernel
theorem Ajk(P:Params)(vals:List Value)(h:vals.length=(Az 79 []).params.length):PySem.bindArgs (Aq (N5 P)) ⟨vals,[]⟩=pure ((Az 79 []).params.zip vals):=by
 refine Op (Aml (h.trans (by decide +kernel:(Az 79 []).params.length=2))) λv0 v1 z=>?_
 subst z
 kernel_rfl
theorem Ann(g:Nat→Obj)(w:World)(os:OsState):B9 (A0 g w os) 357 (Az 79 []) (Aq (N5 w.params)):=
 A9.ok ⟨⟨_,Ath g w,rfl⟩,Heap.CodeRec.of_ok (Afy g w),rfl,rfl,rfl,rfl,rfl,by kernel_rfl,by kernel_rfl,by kernel_rfl,Am2,Alc,Wo⟩ rfl (by decide +kernel) (by decide +kernel) (Ajk w.params)
theorem Anx(g:Nat→Obj)(w:World):(Ae g w).get? 364=some (Mv w.params):=by kernel_rfl
theorem Afr(g:Nat→Obj)(w:World):(Ae g w).codeRecOk (Aq (Mv w.params)).code (Aq (Mv w.params)).qualname=true:=by kernel_rfl
theorem Alt:((Az 80 []).sc.names.map (·.1)).Nodup:=by decide +kernel
theorem Als:∀x∈(Az 80 []).sc.names.map (·.1),(Az 80 []).sc.names.lookup x≠some .globalImplicit→(x==("__debug__" : Str))=false:=by decide +kernel
theorem V8:∀x∈(Az 80 []).sc.names,x.2≠.cell:=by decide +kernel
theorem Amb(P:Params)(vals:List Value)(h:vals.length=(Az 80 []).params.length):PySem.bindArgs (Aq (Mv P)) ⟨vals,[]⟩=pure ((Az 80 []).params.zip vals):=by
 refine xe (Hp (h.trans (by decide +kernel:(Az 80 []).params.length=1))) λv0 z=>?_
 subst z
 kernel_rfl
theorem Aqe(g:Nat→Obj)(w:World)(os:OsState):B9 (A0 g w os) 364 (Az 80 []) (Aq (Mv w.params)):=
 A9.ok ⟨⟨_,Anx g w,rfl⟩,Heap.CodeRec.of_ok (Afr g w),rfl,rfl,rfl,rfl,rfl,by kernel_rfl,by kernel_rfl,by kernel_rfl,Alt,Als,V8⟩ rfl (by decide +kernel) (by decide +kernel) (Amb w.params)
theorem Arl(g:Nat→Obj)(w:World):(Ae g w).get? 371=some (Oe w.params):=by kernel_rfl
theorem Ag0(g:Nat→Obj)(w:World):(Ae g w).codeRecOk (Aq (Oe w.params)).code (Aq (Oe w.params)).qualname=true:=by kernel_rfl
theorem Akx:((Az 81 []).sc.names.map (·.1)).Nodup:=by decide +kernel
theorem Alg:∀x∈(Az 81 []).sc.names.map (·.1),(Az 81 []).sc.names.lookup x≠some .globalImplicit→(x==("__debug__" : Str))=false:=by decide +kernel
theorem Vq:∀x∈(Az 81 []).sc.names,x.2≠.cell:=by decide +kernel
theorem Akv(P:Params)(vals:List Value)(h:vals.length=(Az 81 []).params.length):PySem.bindArgs (Aq (Oe P)) ⟨vals,[]⟩=pure ((Az 81 []).params.zip vals):=by
 obtain⟨v0,v1,v2,v3,v4,v5,v6,v7,rfl⟩:=Azc (h.trans (by decide +kernel:(Az 81 []).params.length=8))
 kernel_rfl
theorem At2(g:Nat→Obj)(w:World)(os:OsState):B9 (A0 g w os) 371 (Az 81 []) (Aq (Oe w.params)):=
 A9.ok ⟨⟨_,Arl g w,rfl⟩,Heap.CodeRec.of_ok (Ag0 g w),rfl,rfl,rfl,rfl,rfl,by kernel_rfl,by kernel_rfl,by kernel_rfl,Akx,Alg,Vq⟩ rfl (by decide +kernel) (by decide +kernel) (Akv w.params)
theorem Ajb(g:Nat→Obj)(w:World):(Ae g w).get? 381=some (Ld w.params):=by kernel_rfl
theorem Aff(g:Nat→Obj)(w:World):(Ae g w).codeRecOk (Aq (Ld w.params)).code (Aq (Ld w.params)).qualname=true:=by kernel_rfl
theorem Aks:((Az 83 []).sc.names.map (·.1)).Nodup:=by decide +kernel
theorem Akh:∀x∈(Az 83 []).sc.names.map (·.1),(Az 83 []).sc.names.lookup x≠some .globalImplicit→(x==("__debug__" : Str))=false:=by decide +kernel
theorem Vk:∀x∈(Az 83 []).sc.names,x.2≠.cell:=by decide +kernel
theorem Alq(P:Params)(vals:List Value)(h:vals.length=(Az 83 []).params.length):PySem.bindArgs (Aq (Ld P)) ⟨vals,[]⟩=pure ((Az 83 []).params.zip vals):=by
 refine xe (Hp (h.trans (by decide +kernel:(Az 83 []).params.length=1))) λv0 z=>?_
 subst z
 kernel_rfl
theorem Auj(g:Nat→Obj)(w:World)(os:OsState):B9 (A0 g w os) 381 (Az 83 []) (Aq (Ld w.params)):=
 A9.ok ⟨⟨_,Ajb g w,rfl⟩,Heap.CodeRec.of_ok (Aff g w),rfl,rfl,rfl,rfl,rfl,by kernel_rfl,by kernel_rfl,by kernel_rfl,Aks,Akh,Vk⟩ rfl (by decide +kernel) (by decide +kernel) (Alq w.params)
theorem An3(g:Nat→Obj)(w:World):(Ae g w).get? 376=some (Nq w.params):=by kernel_rfl
theorem Aes(g:Nat→Obj)(w:World):(Ae g w).codeRecOk (Aq (Nq w.params)).code (Aq (Nq w.params)).qualname=true:=by kernel_rfl
theorem Aiq(g:Nat→Obj)(w:World):(Ae g w).get? 236=some (Oa w.params):=by kernel_rfl
theorem Ahv(g:Nat→Obj)(w:World):(Ae g w).codeRecOk (Aq (Oa w.params)).code (Aq (Oa w.params)).qualname=true:=by kernel_rfl
theorem Anb(P:Params)(vals:List Value)(h:vals.length=(Az 82 []).params.length):PySem.bindArgs (Aq (Nq P)) ⟨vals,[]⟩=pure ((Az 82 []).params.zip vals):=by
 refine Jp (Ajr (h.trans (by decide +kernel:(Az 82 []).params.length=4))) λv0 v1 v2 v3 z=>?_
 subst z
 kernel_rfl
theorem Ajj(P:Params)(vals:List Value)(h:vals.length=(fnc 7 []).params.length):PySem.bindArgs (Aq (Oa P)) ⟨vals,[]⟩=pure ((fnc 7 []).params.zip vals):=by
 refine Op (Aml (h.trans (by decide +kernel:(fnc 7 []).params.length=2))) λv0 v1 z=>?_
 subst z
 kernel_rfl
theorem bindC{Z:Bz}{fn:B6}{fd:FuncData}(hd:fn.dflt=[])(hn:fn.params.Nodup)(hk:∀x∈fn.params,fn.sc.names.lookup x=some .local∨fn.sc.names.lookup x=some .cell)
  (hb:∀vals:List Value,vals.length=fn.params.length→PySem.bindArgs fd ⟨vals,[]⟩=pure (fn.params.zip vals)):
  ∀(args:List AV) (loc:List (Option AV)),Mine.bindArgs fn args=some loc→∀(B:Aa) (φ:List Addr) (vals:List Value),H2 Z B φ args vals→
  ∃binds,PySem.bindArgs fd ⟨vals,[]⟩=pure binds∧(∀x∈binds,fn.sc.names.lookup x.1=some .local∨fn.sc.names.lookup x.1=some .cell)∧
   ∀(i:Nat) x v,(fn.sc.names.map (·.1))[i]? = some x→loc[i]? = some (some v)→∃cv,binds.reverse.lookup x=some cv∧VR Z B φ v cv:=by
 intro args loc hbind B φ vals va
 have hl:=Hm hbind (λp _=>by rw[hd];rfl)
 have hz:((fn.params.zip args++fn.dflt).map (·.1))=fn.params:=by rw[hd,append_nil,Hc hl.symm]
 refine⟨fn.params.zip vals,hb vals (by rw[va.length,hl]),λx hx=>hk _ (of_mem_zip hx).1,?_⟩
 exact Fq hbind (by rw[hd,append_nil];exact PR.zip va) (by rw[hz];exact hn)
theorem Asx(g:Nat→Obj)(w:World)(os:OsState):Md (A0 g w os) 376 (Az 82 []) (Aq (Nq w.params)):=
 ⟨⟨_,An3 g w,rfl⟩,Heap.CodeRec.of_ok (Aes g w),rfl,rfl,rfl,rfl,rfl,by kernel_rfl,by kernel_rfl,by kernel_rfl,by decide +kernel,by decide +kernel,bindC rfl (by decide +kernel) (by decide +kernel) (Anb w.params)⟩
theorem Avi(g:Nat→Obj)(w:World)(os:OsState):Md (A0 g w os) 236 (fnc 7 []) (Aq (Oa w.params)):=
 ⟨⟨_,Aiq g w,rfl⟩,Heap.CodeRec.of_ok (Ahv g w),rfl,rfl,rfl,rfl,rfl,by kernel_rfl,by kernel_rfl,by kernel_rfl,by decide +kernel,by decide +kernel,bindC rfl (by decide +kernel) (by decide +kernel) (Ajj w.params)⟩
noncomputable def F6:B6:=⟨Ft (Fg 70 1),Ke (Fg 70 1),[⟨⟨[115,101,108,102]⟩⟩,⟨⟨[118,97,108,117,101]⟩⟩,⟨⟨[110,97,109,101]⟩⟩],[]⟩
theorem Ain(g:Nat→Obj)(w:World):(Ae g w).get? 198=some (N7 w.params):=by kernel_rfl
theorem Ahl(g:Nat→Obj)(w:World):(Ae g w).codeRecOk (Aq (N7 w.params)).code (Aq (N7 w.params)).qualname=true:=by kernel_rfl
theorem Am0(P:Params)(a b c:Value):PySem.bindArgs (Aq (N7 P)) ⟨[a,b],[("name",c)]⟩=pure (F6.params.zip [a,b,c]):=by kernel_rfl
theorem An9(g:Nat→Obj)(w:World)(os:OsState):O4 (A0 g w os) F6 (Aq (N7 w.params)):=by
 refine⟨⟨⟨_,Ain g w,rfl⟩,Heap.CodeRec.of_ok (Ahl g w),rfl,rfl,rfl,rfl,rfl,by kernel_rfl,by kernel_rfl,by kernel_rfl,by decide +kernel,by decide +kernel,by decide +kernel⟩,λargs loc hbind B φ a b c va=>?_⟩
 have hl:=Hm hbind (λp _=>rfl)
 refine⟨_,Am0 w.params a b c,λx hx=>(by decide +kernel:∀x∈F6.params,F6.sc.names.lookup x=some .local) _ (of_mem_zip hx).1,?_⟩
 have hz:((F6.params.zip args++F6.dflt).map (·.1))=F6.params:=by
  rw[show F6.dflt=[]from rfl,append_nil,Hc hl.symm]
 exact Fq hbind (by rw[show F6.dflt=[]from rfl,append_nil];exact PR.zip va) (by rw[hz];decide +kernel)
noncomputable def Gw:B6:=fnc 16 [(⟨⟨[95,112,97,114,97,109,115]⟩⟩,.dstr [])]
theorem Aig(g:Nat→Obj)(w:World):(Ae g w).get? 294=some (Nl w.params):=by kernel_rfl
theorem Afn(g:Nat→Obj)(w:World):(Ae g w).codeRecOk (Aq (Nl w.params)).code (Aq (Nl w.params)).qualname=true:=by kernel_rfl
theorem Aku(P:Params)(a b c:Value):∃k:Addr→Sem (List (Str×Value)),PySem.bindArgs (Aq (Nl P)) ⟨[a,b,c],[]⟩=(alloc {cls:=.type "dict",data:=.dict #[]} >>= k)∧∀d,k d=pure (Gw.params.zip [a,b,c]++[(⟨⟨[95,112,97,114,97,109,115]⟩⟩,.ref d)]):=by
 refine⟨λd=>pure (Gw.params.zip [a,b,c]++[(⟨⟨[95,112,97,114,97,109,115]⟩⟩,.ref d)]),?_,λd=>rfl⟩
 kernel_rfl
theorem Awk(g:Nat→Obj)(w:World)(os:OsState):Ps (A0 g w os) 294 Gw (Aq (Nl w.params)):=by
 refine⟨⟨⟨_,Aig g w,rfl⟩,Heap.CodeRec.of_ok (Afn g w),rfl,rfl,rfl,rfl,rfl,by kernel_rfl,by kernel_rfl,by kernel_rfl,by decide +kernel,by decide +kernel,by decide +kernel⟩,λargs loc hbind vals hv=>?_⟩
 have hl:=Hm hbind (by decide +kernel)
 refine Ot (Axs (hv.trans (hl.trans (by decide +kernel:Gw.params.length=3)))) λa b c z=>?_
 subst z
 refine Aj (Aku w.params a b c) λk h1 h2=>?_
 refine⟨λd=>Gw.params.zip [a,b,c]++[(⟨⟨[95,112,97,114,97,109,115]⟩⟩,.ref d)],λM A E s Q q=>?_,λd x hx=>?_,λB φ d va vd=>?_⟩
 ·rw[h1]
  refine wpAny_bind (wpAny_alloc ?_)
  rw[h2]
  exact wpAny_pure q
 ·rcases mem_append.mp hx with hx | hx
  ·exact(by decide +kernel:∀x∈Gw.params,Gw.sc.names.lookup x=some .local) _ (of_mem_zip hx).1
  ·rw[mem_singleton.mp hx]
   exact(by decide +kernel:Gw.sc.names.lookup ⟨⟨[95,112,97,114,97,109,115]⟩⟩=some .local)
 ·have hz:((Gw.params.zip args++Gw.dflt).map (·.1))=Gw.params++[⟨⟨[95,112,97,114,97,109,115]⟩⟩]:=by
   rw[map_append,Hc hl.symm];rfl
  exact Fq hbind ((PR.zip va).append (.cons vd .nil)) (by rw[hz];decide +kernel)
noncomputable def Fo:Sem α→Obj→Sem α
 | .load _ _ f,o=>f o
 | x,_=>x
noncomputable def Tl:Sem α→Option Value
 | .load _ p _=>p
 | _=>none
theorem Kz{fn:B6}{args:List AV}{loc:List (Option AV)}(hb:Mine.bindArgs fn args=some loc)(n:Nat)(h0:n≤fn.params.length)(h1:∀p∈fn.params.take n,fn.dflt.lookup p=none)(h2:∀p∈fn.params.drop n,(fn.dflt.lookup p).isSome=true):args.length=n∨args.length=4:=by
 refine Pb (Iy hb) λc1 c2 c3=>?_
 rcases c3 with c3 | c3
 case inr=>exact .inr c3
 left
 rw[all_eq_true]at c2 c3
 have key:∀a b:Nat,a < b→b≤fn.params.length→∃p,p∈fn.params.drop a∧p∈fn.params.take b:=λa b hab hb=>by
  have ha:a < fn.params.length:=by exact lt_of_lt_of_le ‹_› ‹_›
  refine⟨fn.params[a],?_,?_⟩
  ·rw[drop_eq_getElem_cons ha];exact mem_cons_self ..
  ·rw[mem_take_iff_getElem];exact⟨a,by lia,rfl⟩
 rcases lt_trichotomy args.length n with h | h | h
 ·refine Aj (key _ _ h h0) λp p1 p2=>?_
  have:=c2 p p1
  rw[h1 p p2]at this;exact Ff this
 ·exact h
 ·refine Aj (key _ _ h c1) λp p1 p2=>?_
  have e1:=c3 p p2
  have e2:=h2 p p1
  cases q:fn.dflt.lookup p with
  | none=>rw[q]at e2;exact Ff e2
  | some u=>rw[q]at e1;exact Ff e1
theorem Ajc(g:Nat→Obj)(w:World):(Ae g w).get? 191=some (Mz w.params):=by kernel_rfl
theorem Ag5(g:Nat→Obj)(w:World):(Ae g w).codeRecOk (Aq (Mz w.params)).code (Aq (Mz w.params)).qualname=true:=by kernel_rfl
theorem Aqt(g:Nat→Obj)(w:World):(Ae g w).get? 184=some (Aik w.params):=by kernel_rfl
theorem Akn(P:Params)(a:Value):∃k:Option (Array Value)→Sem (List (Str×Value)),PySem.bindArgs (Aq (Mz P)) ⟨[a],[]⟩=(seqItems? (.ref 184) >>= k)∧k (some ⟨[.none]⟩)=pure (C0.params.zip [a]++[(Ci,.none)]):=
 ⟨_,rfl,by kernel_rfl⟩
theorem Ar3(g:Nat→Obj)(w:World)(os:OsState):B9 (A0 g w os) 191 C0 (Aq (Mz w.params)):=by
 refine⟨⟨_,Ajc g w,rfl⟩,Heap.CodeRec.of_ok (Ag5 g w),rfl,rfl,rfl,rfl,rfl,by kernel_rfl,by kernel_rfl,by kernel_rfl,by decide +kernel,by decide +kernel,λargs loc hbind B φ vals s kp va old=>?_⟩
 have hl:args.length=1:=(Kz hbind 1 (by decide +kernel) (by decide +kernel) (by decide +kernel)).resolve_right λh=>by
  have h1:=(Iy hbind).1
  rw[h,show C0.params.length=2 by decide +kernel]at h1
  lia
 refine xe (Hp (va.length.trans hl)) λa z=>?_
 subst z
 refine Aj (Akn w.params a) λk h1 h2=>?_
 refine⟨C0.params.zip [a]++[(Ci,.none)],λM A E Q q=>?_,λx hx=>?_,?_⟩
 ·rw[h1]
  refine wpAny_bind (wpAny_seqItems (kp _ _ (Aqt g w)) rfl ?_)
  rw[h2]
  exact wpAny_pure q
 ·rcases mem_append.mp hx with hx | hx
  ·exact(by decide +kernel:∀x∈C0.params,C0.sc.names.lookup x=some .local) _ (of_mem_zip hx).1
  ·rw[mem_singleton.mp hx]
   exact(by decide +kernel:C0.sc.names.lookup Ci=some .local)
 ·refine xe (Hp hl) λb z=>?_
  subst z
  exact Fq hbind ((PR.zip va).append (.cons (by rfl) .nil)) (by
   have:((C0.params.zip [b]++C0.dflt).map (·.1))=[⟨⟨[115,101,108,102]⟩⟩,Ci]:=by
    rw[map_append]
    have hp:C0.params=[⟨⟨[115,101,108,102]⟩⟩,Ci]:=by decide +kernel
    rw[hp];rfl
   rw[this];decide +kernel)
noncomputable def Yx:List (Str×AV):=[(⟨⟨[108,111]⟩⟩,.d (.int 0)),(⟨⟨[104,105]⟩⟩,.d .none),(⟨⟨[107,101,121]⟩⟩,.d .none)]
noncomputable def bP:List Str:=[⟨⟨[97]⟩⟩,⟨⟨[120]⟩⟩,⟨⟨[108,111]⟩⟩,⟨⟨[104,105]⟩⟩]
noncomputable def bK:Str:=⟨⟨[107,101,121]⟩⟩
theorem T8{Z:Bz}{B:Aa}{φ:List Addr}{fn:B6}{args:List AV}{loc:List (Option AV)}{binds:List (Str×Value)}(hb:Mine.bindArgs fn args=some loc)(hp:fn.params=bP)(hd:fn.dflt=Yx)(hl:args.length=4)(h:PR Z B φ (fn.params.zip args++[(bK,AV.d .none)]) binds):
  ∀(i:Nat) x v,(fn.sc.names.map (·.1))[i]? = some x→loc[i]? = some (some v)→∃cv,binds.reverse.lookup x=some cv∧VR Z B φ v cv:=by
 intro i x v e1 e2
 unfold Mine.bindArgs at hb
 split at hb
 ·obtain rfl:=Option.some.inj hb
  rw[getElem?_map]at e1 e2
  refine Ch e1 λp hpp z=>?_
  clear e1
  subst z
  rw[hpp]at e2
  simp only[map_some,Option.some.injEq]at e2
  refine Jp (Ajr hl) λa b c d z=>?_
  subst z
  rw[hp]at h e2
  rw[hd]at e2
  have e3:(bP.zip [a,b,c,d]++[(bK,AV.d .none)]).lookup p.1=some v:=by
   rw[lookup_append]
   cases q:(bP.zip [a,b,c,d]).lookup p.1 with
   | some u=>rw[q]at e2;exact e2
   | none=>
    rw[q]at e2
    dsimp only[bP,zip_cons_cons,zip_nil_right,lookup_cons]at q
    simp only[Yx,lookup_cons]at e2
    show [(bK,AV.d .none)].lookup p.1=some v
    simp only[lookup_cons]
    repeat' split at q
    all_goals first | (cases q;done) | skip
    repeat' split at e2
    all_goals first | (simp_all [bK];done) | skip
  rw[H0 (by rw[h.keys];simp only[bP,zip_cons_cons,zip_nil_right,map_append,map_cons,map_nil];decide +kernel)]
  exact h.lookup e3
 ·exact Am hb
theorem Lb{Z:Bz}{fn:B6}{fd:FuncData}{aD aK:Addr}{oD oK:Obj}{t n:Nat}(hp:fn.params=bP)(hd:fn.dflt=Yx)(hnm:∀y∈bP++[bK],fn.sc.names.lookup y=some .local)
  (hD:Z.s₀.heap.get? aD=some oD) (hoD:oD.data = .seq ⟨[.int 0 t,.none]⟩ n) (hK:Z.s₀.heap.get? aK=some oK)
  (b2:∀a b:Value,∃k:Option (Array Value)→Sem (List (Str×Value)),PySem.bindArgs fd ⟨[a,b],[]⟩=(seqItems? (.ref aD) >>= k)∧
   k (some ⟨[.int 0 t,.none]⟩)=(loadPart aK (Tl (k (some ⟨[.int 0 t,.none]⟩))) >>= Fo (k (some ⟨[.int 0 t,.none]⟩)))∧Fo (k (some ⟨[.int 0 t,.none]⟩)) oK=pure (bP.zip [a,b,.int 0 t,.none]++[(bK,.none)]))
  (b4:∀a b c d:Value,∃k:Option (Array Value)→Sem (List (Str×Value)),PySem.bindArgs fd ⟨[a,b,c,d],[]⟩=(seqItems? (.ref aD) >>= k)∧
   k (some ⟨[.int 0 t,.none]⟩)=(loadPart aK (Tl (k (some ⟨[.int 0 t,.none]⟩))) >>= Fo (k (some ⟨[.int 0 t,.none]⟩)))∧Fo (k (some ⟨[.int 0 t,.none]⟩)) oK=pure (bP.zip [a,b,c,d]++[(bK,.none)]))
  (args:List AV) (loc:List (Option AV)) (hbind:Mine.bindArgs fn args=some loc) (B:Aa) (φ:List Addr) (vals:List Value) (s:Shared) (kp:Bo Z.s₀.heap s.heap) (va:H2 Z B φ args vals):
  ∃binds,BindsTo s fd ⟨vals,[]⟩ binds∧(∀x∈binds,fn.sc.names.lookup x.1=some .local)∧
   ∀(i:Nat) x v,(fn.sc.names.map (·.1))[i]? = some x→loc[i]? = some (some v)→∃cv,binds.reverse.lookup x=some cv∧VR Z B φ v cv:=by
 have bt:∀(vs ws:List Value) (k:Option (Array Value)→Sem (List (Str×Value))),PySem.bindArgs fd ⟨vs,[]⟩=(seqItems? (.ref aD) >>= k)→k (some ⟨[.int 0 t,.none]⟩)=(loadPart aK (Tl (k (some ⟨[.int 0 t,.none]⟩))) >>= Fo (k (some ⟨[.int 0 t,.none]⟩)))→
   Fo (k (some ⟨[.int 0 t,.none]⟩)) oK=pure (bP.zip ws++[(bK,.none)])→BindsTo s fd ⟨vs,[]⟩ (bP.zip ws++[(bK,.none)]):=by
  intro vs ws k h1 h2 h3 M A E Q q
  rw[h1]
  refine wpAny_bind (wpAny_seqItems (kp _ _ hD) hoD ?_)
  rw[h2]
  refine wpAny_bind (wpAny_loadPart (kp _ _ hK) ?_)
  rw[h3]
  exact wpAny_pure q
 have nm:∀(ws:List Value) (x:Str×Value),x∈bP.zip ws++[(bK,.none)]→fn.sc.names.lookup x.1=some .local:=by
  intro ws x hx
  refine hnm _ ?_
  rcases mem_append.mp hx with hx | hx
  ·exact mem_append_left _ (of_mem_zip hx).1
  ·exact mem_append_right _ (by rw[mem_singleton.mp hx];exact mem_singleton.mpr rfl)
 have ar:args.length=2∨args.length=4:=Kz hbind 2 (by rw[hp];decide) (by rw[hp,hd];decide +kernel) (by rw[hp,hd];decide +kernel)
 rcases ar with hl | hl
 ·refine Op (Aml hl) λc d z=>?_
  subst z
  refine Cc va.two λca cb z ha hb'=>?_
  subst z
  refine D7 (b2 ca cb) λk h1 h2 h3=>?_
  refine⟨_,bt _ _ k h1 h2 h3,nm _,Fq hbind ?_ ?_⟩
  ·rw[hp,hd]
   exact .cons ha (.cons hb' (.cons ⟨_,rfl⟩ (.cons (by rfl) (.cons (by rfl) .nil))))
  ·rw[hp,hd]
   show([(⟨⟨[97]⟩⟩:Str),⟨⟨[120]⟩⟩,⟨⟨[108,111]⟩⟩,⟨⟨[104,105]⟩⟩,⟨⟨[107,101,121]⟩⟩]).Nodup
   decide +kernel
 ·refine Jp (Ajr (va.length.trans hl)) λca cb cc cd z=>?_
  subst z
  refine D7 (b4 ca cb cc cd) λk h1 h2 h3=>?_
  refine⟨_,bt _ _ k h1 h2 h3,nm _,T8 hbind hp hd hl ?_⟩
  rw[hp]
  exact(PR.zip va).append (.cons (by rfl) .nil)
theorem Aw9(g:Nat→Obj)(w:World):(Ae g w).get? 47=some (Pk w.params):=by kernel_rfl
theorem Akg(g:Nat→Obj)(w:World):(Ae g w).codeRecOk (Aq (Pk w.params)).code (Aq (Pk w.params)).qualname=true:=by kernel_rfl
theorem Aya(g:Nat→Obj)(w:World):(Ae g w).get? 39=some (Xu w.params):=by kernel_rfl
theorem Ayy(g:Nat→Obj)(w:World):(Ae g w).get? 40=some (Xa w.params):=by kernel_rfl
theorem Ayl(g:Nat→Obj)(w:World)(os:OsState):B9 (A0 g w os) 47 (Az 2 Yx) (Aq (Pk w.params)):=by
 refine⟨⟨_,Aw9 g w,rfl⟩,Heap.CodeRec.of_ok (Akg g w),rfl,rfl,rfl,rfl,rfl,by kernel_rfl,by kernel_rfl,by kernel_rfl,by decide +kernel,by decide +kernel,λargs loc hbind B φ vals s kp va old=>?_⟩
 exact Lb (aD:=39) (aK:=40) (t:=291) (by decide +kernel) rfl (by decide +kernel) (Aya g w) rfl (Ayy g w) (λa b=>⟨_,rfl,by kernel_rfl,by kernel_rfl⟩) (λa b c d=>⟨_,rfl,by kernel_rfl,by kernel_rfl⟩) args loc hbind B φ vals s kp va
theorem Aw8(g:Nat→Obj)(w:World):(Ae g w).get? 56=some (Py w.params):=by kernel_rfl
theorem Alb(g:Nat→Obj)(w:World):(Ae g w).codeRecOk (Aq (Py w.params)).code (Aq (Py w.params)).qualname=true:=by kernel_rfl
theorem Ax5(g:Nat→Obj)(w:World):(Ae g w).get? 48=some (Zg w.params):=by kernel_rfl
theorem Aw7(g:Nat→Obj)(w:World):(Ae g w).get? 49=some (Y4 w.params):=by kernel_rfl
theorem Aw3(g:Nat→Obj)(w:World)(os:OsState):B9 (A0 g w os) 56 (Az 3 Yx) (Aq (Py w.params)):=by
 refine⟨⟨_,Aw8 g w,rfl⟩,Heap.CodeRec.of_ok (Alb g w),rfl,rfl,rfl,rfl,rfl,by kernel_rfl,by kernel_rfl,by kernel_rfl,by decide +kernel,by decide +kernel,λargs loc hbind B φ vals s kp va old=>?_⟩
 exact Lb (aD:=48) (aK:=49) (t:=305) (by decide +kernel) rfl (by decide +kernel) (Ax5 g w) rfl (Aw7 g w) (λa b=>⟨_,rfl,by kernel_rfl,by kernel_rfl⟩) (λa b c d=>⟨_,rfl,by kernel_rfl,by kernel_rfl⟩) args loc hbind B φ vals s kp va
theorem Ay2(g:Nat→Obj)(w:World):(Ae g w).get? 65=some (Ow w.params):=by kernel_rfl
theorem Ajy(g:Nat→Obj)(w:World):(Ae g w).codeRecOk (Aq (Ow w.params)).code (Aq (Ow w.params)).qualname=true:=by kernel_rfl
theorem Axk(g:Nat→Obj)(w:World):(Ae g w).get? 57=some (Zd w.params):=by kernel_rfl
theorem Ax1(g:Nat→Obj)(w:World):(Ae g w).get? 58=some (X5 w.params):=by kernel_rfl
theorem Axf(g:Nat→Obj)(w:World)(os:OsState):B9 (A0 g w os) 65 (Az 4 Yx) (Aq (Ow w.params)):=by
 refine⟨⟨_,Ay2 g w,rfl⟩,Heap.CodeRec.of_ok (Ajy g w),rfl,rfl,rfl,rfl,rfl,by kernel_rfl,by kernel_rfl,by kernel_rfl,by decide +kernel,by decide +kernel,λargs loc hbind B φ vals s kp va old=>?_⟩
 exact Lb (aD:=57) (aK:=58) (t:=318) (by decide +kernel) rfl (by decide +kernel) (Axk g w) rfl (Ax1 g w) (λa b=>⟨_,rfl,by kernel_rfl,by kernel_rfl⟩) (λa b c d=>⟨_,rfl,by kernel_rfl,by kernel_rfl⟩) args loc hbind B φ vals s kp va
noncomputable def Agk:List (List Nat×Nat×Int×Nat):=[([33],2462,54,2458),([33,61],2464,28,2406),([37],2466,24,2398),([37,61],2468,40,2430),([38],2470,19,2388),([38,61],2472,41,2432),([40],2474,7,2364),([41],2476,8,2366),([42],2478,16,2382),([42,42],2480,35,2420),([42,42,61],2482,46,2442),([42,61],2484,38,2426),([43],2486,14,2378),([43,61],2488,36,2422),([44],2490,12,2374),([45],2492,15,2380),([45,61],2494,37,2424),([45,62],2496,51,2452),([46],2498,23,2396),([46,46,46],2500,52,2454),([47],2502,17,2384),([47,47],2504,47,2444),([47,47,61],2506,48,2446),([47,61],2508,39,2428),([58],2510,11,2372),([58,61],2512,53,2456),([59],2514,13,2376),([60],2516,20,2390),([60,60],2518,33,2416),([60,60,61],2520,44,2438),([60,61],2522,29,2408),([61],2524,22,2394),([61,61],2526,27,2404),([62],2528,21,2392),([62,61],2530,30,2410),([62,62],2531,34,2418),([62,62,61],2532,45,2440),([64],2533,49,2448),([64,61],2534,50,2450),([91],2535,9,2368),([93],2536,10,2370),([94],2537,32,2414),([94,61],2538,43,2436),([123],2539,25,2400),([124],2540,18,2386),([124,61],2541,42,2434),([125],2542,26,2402),([126],2543,31,2412)]
noncomputable def Aau(P:Params)(q:List Nat×Nat×Int×Nat):DictEntry:=ke P q.1 q.2.1 (.int q.2.2.1 q.2.2.2)
theorem At7(g:Nat→Obj)(w:World):(Ae g w).get? 130=some (Wg w.params):=by kernel_rfl
theorem Alj(P:Params):(Wg P)=⟨.type "dict",none,.dict (Agk.map (Aau P)).toArray 48,#[]⟩:=by kernel_rfl
theorem Amy:D1=Agk.map λq=>(⟨⟨q.1⟩⟩,.int q.2.2.1):=by kernel_rfl
theorem Wl(P:Params)(B:Aa)(y:Str):∀L:List (List Nat×Nat×Int×Nat),match (L.map λq=>((⟨⟨q.1⟩⟩:Str),D.int q.2.2.1)).lookup y with
  | some d=>∃v,((L.map (Aau P)).find? λe=>Value.isStrOf y e.key).map (·.val)=some v∧Er B d v
  | none=>((L.map (Aau P)).find? λe=>Value.isStrOf y e.key).map (·.val)=none
 | []=>by rfl
 | q::L=>by
  have ih:=Wl P B y L
  simp only[map_cons,lookup_cons,find?_cons]
  have hk:Value.isStrOf y (Aau P q).key=(y==⟨⟨q.1⟩⟩):=by
   show Value.isStrOf y (.str ⟨⟨q.1⟩⟩ q.2.1)=_
   simp only[Value.isStrOf]
   exact Bool.beq_comm
  rw[hk]
  cases e:y==(⟨⟨q.1⟩⟩:Str)with
  | true=>
   exact⟨_,rfl,by exact⟨_,rfl⟩⟩
  | false=>exact ih
theorem Aj9(g:Nat→Obj)(w:World):Pm (PySem.strKind A6 w) (Ae g w).get? D1 130:=by
 refine⟨λy=>((Agk.map (Aau w.params)).find? λe=>Value.isStrOf y e.key).map (·.val),_,At7 g w,rfl,λh e=>?_,λy=>?_⟩
 ·rw[Alj]at e
  refine⟨_,_,_,e,⟨rfl,rfl,rfl⟩,rfl,λen hen=>?_,λy=>?_⟩
  ·simp only[mem_toArray,mem_map]at hen
   refine Aj hen λq _ z=>?_
   clear hen
   subst z
   exact⟨⟨⟨q.1⟩⟩,by show Value.isStrOf _ (.str ⟨⟨q.1⟩⟩ q.2.1)=true;simp[Value.isStrOf],rfl⟩
  ·delta findBy
   rw[find?_toArray]
   rfl
 ·rw[Amy]
  exact Wl w.params _ y Agk
theorem Rr(B:Aa)(y:Int):∀(kvs:List (Int×Str)) (es:List DictEntry),B3 kvs es→match (kvs.map λp=>(p.1,D.str p.2)).lookup y with
  | some d=>∃v,(es.find? λe=>Value.isInt y e.key).map (·.val)=some v∧Er B d v
  | none=>(es.find? λe=>Value.isInt y e.key).map (·.val)=none
 | [],es,h=>by subst h;simp
 | (k,x)::r,es,h=>by
  refine Ip h λt u es' z h3=>?_
  clear h
  subst z
  have ih:=Rr B y r es' h3
  simp only[map_cons,lookup_cons,find?_cons]
  have hk:Value.isInt y (.int k t)=(y==k):=by
   simp only[Value.isInt]
   exact Bool.beq_comm
  rw[hk]
  cases e:y==k with
  | true=>exact⟨_,rfl,by exact⟨_,rfl⟩⟩
  | false=>exact ih
theorem Ape(g:Nat→Obj)(hg:Ack g)(w:World):Pm (PySem.intKind A6 w) (Ae g w).get? b3T 84:=by
 refine Kt hg λes n h1 h2=>?_
 clear hg
 have hat:(Ae g w).get? 84=some (Eg es n):=by
  have:(Ae g w).get? 84=(match g 84 with | ⟨_,_,.freed,_⟩=>none | o=>some o):=by kernel_rfl
  rw[this,h1];rfl
 refine⟨λy=>(es.find? λe=>Value.isInt y e.key).map (·.val),_,hat,rfl,λh e=>?_,λy=>?_⟩
 ·refine⟨_,_,_,e,⟨rfl,rfl,rfl⟩,rfl,λen hen=>?_,λy=>?_⟩
  ·refine Kt (h2.keys en hen) λk t e1 e2=>?_
   exact⟨k,by rw[e1];show Value.isInt k (.int k t)=true;simp[Value.isInt],e2⟩
  ·delta findBy
   rw[find?_toArray]
   rfl
 ·exact Rr (Ae g w).get? y Mf es h2
noncomputable def L73:List (Int×Nat):=[(65024,350),(65025,351),(65026,352),(65027,353),(65028,354),(65029,355),(6150,336),(65030,356),(65031,357),(65032,358),(65033,359),(6155,337),(6156,338),(6157,339),(8203,340),(8204,341),(8205,342),(65034,360),(65035,361),(65036,362),(65037,363),(65038,364),(65039,365),(173,334),(847,335),(8288,343),(65279,344)]
theorem Axc(g:Nat→Obj)(w:World):(Ae g w).get? 73=some (Up w.params):=by kernel_rfl
noncomputable def Amd(P:Params):SetTable:=⟨127,⟨[0,1,2,3,4,5,6,7,8,9,10,11,12,13,14,15,16,17,18,19,20,21,22,45,79,96,127]⟩,⟨[]⟩,0,!(P.followText "set-order"),2,true⟩
theorem Aoj(P:Params):(Up P)=⟨.type "set",none,.set (L73.map λq=>(q.1,.int q.1 q.2)).toArray 29 (Amd P),#[]⟩:=by kernel_rfl
theorem Avj(P:Params):(Amd P).fits (L73.map λq=>(q.1,Value.int q.1 q.2)).toArray.size=true:=by kernel_rfl
theorem Aip:(L73.map λq=>(q.1,Value.int q.1 q.2)).toArray.size=27:=by kernel_rfl
theorem Anp(g:Nat→Obj)(w:World):Aae A6 w (Ae g w).get? b1T 73:=by
 refine⟨_,Axc g w,λA E s Q i t hs q=>?_⟩
 rw[Aoj]at hs
 have hS:s.heap.SetOf (PySem.intKind A6 w) 73 (λk=>b1T.contains k) 27:=by
  refine⟨_,_,29,Amd w.params,hs,⟨rfl,rfl,rfl⟩,rfl,λe he=>?_,λk=>?_,?_,?_,?_⟩
  ·simp only[mem_map]at he
   refine Aj he λq hq z=>?_
   clear he
   subst z
   refine⟨⟨q.1,by show Value.isInt q.1 (.int q.1 q.2)=true;simp[Value.isInt],?_⟩,rfl⟩
   exact(by decide +kernel:∀q∈L73,q.1=hashInt q.1) q hq
  ·have hb:∀k,k∈b1T↔k∈L73.map (·.1):=by
    have h1:∀k∈b1T,k∈L73.map (·.1):=by decide +kernel
    have h2:∀k∈L73.map (·.1),k∈b1T:=by decide +kernel
    exact λk=>⟨h1 k,h2 k⟩
   rw[contains_iff_mem,hb]
   simp only[mem_map]
   constructor
   ·intro w1
    refine Aj w1 λq hq z1=>?_
    clear w1
    subst z1
    exact⟨_,⟨q,hq,rfl⟩,by show Value.isInt q.1 (.int q.1 q.2)=true;simp[Value.isInt]⟩
   ·intro w1
    refine Aj w1 λ_ w2 h=>?_
    clear w1
    obtain⟨q,hq,rfl⟩:=w2
    refine⟨q,hq,?_⟩
    have h:Value.isInt k (.int q.1 q.2)=true:=h
    simpa [Value.isInt]using h
  ·rw[Aip];decide
  ·exact Avj w.params
  ·exact Aip
 exact wpAny_inSet_of (knd:=PySem.intKind A6 w) (k:=i) (by show Value.isInt i (.int i t)=true;simp[Value.isInt]) rfl hS (q _)
def Gj(Z:Bz)(p:Str×AV):Prop:=(p.1==("__debug__" : Str))=false∧((∃cv,Z.mg p.1=some cv∧VR Z Z.s₀.heap.get? [] p.2 cv)∨(∃cv,p.2 = .g cv∧Z.mg p.1=none∧Z.mb p.1=some cv))
section
variable (g:Nat→Obj) (hg:Ack g) (w:World) (os:OsState)
theorem Gk:(A0 g w os).mg=(Ae g w).nsMap mainGlobals:=rfl
theorem zmb:(A0 g w os).mb=(Ae g w).nsMap builtinsNs:=rfl
theorem gv0:(Ae g w).nsMap mainGlobals ⟨⟨[98,105,115,101,99,116,95,114,105,103,104,116]⟩⟩=some (.ref 47):=by kernel_rfl
theorem gk0:Gj (A0 g w os) (⟨⟨[98,105,115,101,99,116,95,114,105,103,104,116]⟩⟩,.g (.ref 47)):=⟨by decide,.inl ⟨_,(congrFun (Gk g w os) _).trans (gv0 g w),rfl⟩⟩
theorem gv1:(Ae g w).nsMap mainGlobals ⟨⟨[105,110,115,111,114,116,95,108,101,102,116]⟩⟩=some (.ref 56):=by kernel_rfl
theorem gk1:Gj (A0 g w os) (⟨⟨[105,110,115,111,114,116,95,108,101,102,116]⟩⟩,.g (.ref 56)):=⟨by decide,.inl ⟨_,(congrFun (Gk g w os) _).trans (gv1 g w),rfl⟩⟩
theorem gv2:(Ae g w).nsMap mainGlobals ⟨⟨[98,105,115,101,99,116,95,108,101,102,116]⟩⟩=some (.ref 65):=by kernel_rfl
theorem gk2:Gj (A0 g w os) (⟨⟨[98,105,115,101,99,116,95,108,101,102,116]⟩⟩,.g (.ref 65)):=⟨by decide,.inl ⟨_,(congrFun (Gk g w os) _).trans (gv2 g w),rfl⟩⟩
theorem gv3:(Ae g w).nsMap mainGlobals ⟨⟨[105,110,95,116,97,98,108,101,95,98,49]⟩⟩=some (.ref 83):=by kernel_rfl
theorem gk3:Gj (A0 g w os) (⟨⟨[105,110,95,116,97,98,108,101,95,98,49]⟩⟩,.g (.ref 83)):=⟨by decide,.inl ⟨_,(congrFun (Gk g w os) _).trans (gv3 g w),rfl⟩⟩
theorem gv4:(Ae g w).nsMap mainGlobals ⟨⟨[109,97,112,95,116,97,98,108,101,95,98,51]⟩⟩=some (.ref 129):=by kernel_rfl
theorem gk4:Gj (A0 g w os) (⟨⟨[109,97,112,95,116,97,98,108,101,95,98,51]⟩⟩,.g (.ref 129)):=⟨by decide,.inl ⟨_,(congrFun (Gk g w os) _).trans (gv4 g w),rfl⟩⟩
theorem gv5:(Ae g w).nsMap mainGlobals ⟨⟨[73,83,84,69,82,77,73,78,65,76]⟩⟩=some (.ref 139):=by kernel_rfl
theorem gk5:Gj (A0 g w os) (⟨⟨[73,83,84,69,82,77,73,78,65,76]⟩⟩,.g (.ref 139)):=⟨by decide,.inl ⟨_,(congrFun (Gk g w os) _).trans (gv5 g w),rfl⟩⟩
theorem gv6:(Ae g w).nsMap mainGlobals ⟨⟨[73,83,78,79,78,84,69,82,77,73,78,65,76]⟩⟩=some (.ref 146):=by kernel_rfl
theorem gk6:Gj (A0 g w os) (⟨⟨[73,83,78,79,78,84,69,82,77,73,78,65,76]⟩⟩,.g (.ref 146)):=⟨by decide,.inl ⟨_,(congrFun (Gk g w os) _).trans (gv6 g w),rfl⟩⟩
theorem gv7:(Ae g w).nsMap mainGlobals ⟨⟨[73,83,69,79,70]⟩⟩=some (.ref 153):=by kernel_rfl
theorem gk7:Gj (A0 g w os) (⟨⟨[73,83,69,79,70]⟩⟩,.g (.ref 153)):=⟨by decide,.inl ⟨_,(congrFun (Gk g w os) _).trans (gv7 g w),rfl⟩⟩
theorem gv8:(Ae g w).nsMap mainGlobals ⟨⟨[72,101,97,100,101,114,115]⟩⟩=some (.ref 297):=by kernel_rfl
theorem gk8:Gj (A0 g w os) (⟨⟨[72,101,97,100,101,114,115]⟩⟩,.g (.ref 297)):=⟨by decide,.inl ⟨_,(congrFun (Gk g w os) _).trans (gv8 g w),rfl⟩⟩
theorem gv9:(Ae g w).nsMap mainGlobals ⟨⟨[95,108,97,119,95,111,112,112,111,115,105,116,101]⟩⟩=some (.ref 308):=by kernel_rfl
theorem gk9:Gj (A0 g w os) (⟨⟨[95,108,97,119,95,111,112,112,111,115,105,116,101]⟩⟩,.g (.ref 308)):=⟨by decide,.inl ⟨_,(congrFun (Gk g w os) _).trans (gv9 g w),rfl⟩⟩
theorem Axz:(Ae g w).nsMap mainGlobals ⟨⟨[95,108,97,119,95,100,114,97,119,110]⟩⟩=some (.ref 315):=by kernel_rfl
theorem Axt:Gj (A0 g w os) (⟨⟨[95,108,97,119,95,100,114,97,119,110]⟩⟩,.g (.ref 315)):=⟨by decide,.inl ⟨_,(congrFun (Gk g w os) _).trans (Axz g w),rfl⟩⟩
theorem Axx:(Ae g w).nsMap mainGlobals ⟨⟨[95,108,97,119,95,116,114,117,116,104]⟩⟩=some (.ref 322):=by kernel_rfl
theorem Aww:Gj (A0 g w os) (⟨⟨[95,108,97,119,95,116,114,117,116,104]⟩⟩,.g (.ref 322)):=⟨by decide,.inl ⟨_,(congrFun (Gk g w os) _).trans (Axx g w),rfl⟩⟩
theorem Axw:(Ae g w).nsMap mainGlobals ⟨⟨[95,108,97,119,95,107,101,101,112,115]⟩⟩=some (.ref 329):=by kernel_rfl
theorem Ayt:Gj (A0 g w os) (⟨⟨[95,108,97,119,95,107,101,101,112,115]⟩⟩,.g (.ref 329)):=⟨by decide,.inl ⟨_,(congrFun (Gk g w os) _).trans (Axw g w),rfl⟩⟩
theorem Axb:(Ae g w).nsMap mainGlobals ⟨⟨[95,108,97,119,95,112,114,101,112,97,114,101,100]⟩⟩=some (.ref 336):=by kernel_rfl
theorem Ayw:Gj (A0 g w os) (⟨⟨[95,108,97,119,95,112,114,101,112,97,114,101,100]⟩⟩,.g (.ref 336)):=⟨by decide,.inl ⟨_,(congrFun (Gk g w os) _).trans (Axb g w),rfl⟩⟩
theorem Ayc:(Ae g w).nsMap mainGlobals ⟨⟨[95,108,97,119,95,112,105,101,99,101,115]⟩⟩=some (.ref 343):=by kernel_rfl
theorem Ays:Gj (A0 g w os) (⟨⟨[95,108,97,119,95,112,105,101,99,101,115]⟩⟩,.g (.ref 343)):=⟨by decide,.inl ⟨_,(congrFun (Gk g w os) _).trans (Ayc g w),rfl⟩⟩
theorem Aw6:(Ae g w).nsMap mainGlobals ⟨⟨[95,108,97,119,95,110,97,109,101,115]⟩⟩=some (.ref 350):=by kernel_rfl
theorem Ayq:Gj (A0 g w os) (⟨⟨[95,108,97,119,95,110,97,109,101,115]⟩⟩,.g (.ref 350)):=⟨by decide,.inl ⟨_,(congrFun (Gk g w os) _).trans (Aw6 g w),rfl⟩⟩
theorem Ax2:(Ae g w).nsMap mainGlobals ⟨⟨[95,108,97,119,95,114,117,108,101,115]⟩⟩=some (.ref 357):=by kernel_rfl
theorem Aye:Gj (A0 g w os) (⟨⟨[95,108,97,119,95,114,117,108,101,115]⟩⟩,.g (.ref 357)):=⟨by decide,.inl ⟨_,(congrFun (Gk g w os) _).trans (Ax2 g w),rfl⟩⟩
theorem Axg:(Ae g w).nsMap mainGlobals ⟨⟨[95,108,97,119,95,115,116,101,112,115]⟩⟩=some (.ref 364):=by kernel_rfl
theorem Ax8:Gj (A0 g w os) (⟨⟨[95,108,97,119,95,115,116,101,112,115]⟩⟩,.g (.ref 364)):=⟨by decide,.inl ⟨_,(congrFun (Gk g w os) _).trans (Axg g w),rfl⟩⟩
theorem Ayp:(Ae g w).nsMap mainGlobals ⟨⟨[95,108,97,119,95,115,101,97,114,99,104]⟩⟩=some (.ref 371):=by kernel_rfl
theorem Ayz:Gj (A0 g w os) (⟨⟨[95,108,97,119,95,115,101,97,114,99,104]⟩⟩,.g (.ref 371)):=⟨by decide,.inl ⟨_,(congrFun (Gk g w os) _).trans (Ayp g w),rfl⟩⟩
theorem Ayf:(Ae g w).nsMap mainGlobals ⟨⟨[95,108,97,119,95,114,105,103,104,116]⟩⟩=some (.ref 376):=by kernel_rfl
theorem Aw2:Gj (A0 g w os) (⟨⟨[95,108,97,119,95,114,105,103,104,116]⟩⟩,.g (.ref 376)):=⟨by decide,.inl ⟨_,(congrFun (Gk g w os) _).trans (Ayf g w),rfl⟩⟩
theorem Axm:(Ae g w).nsMap mainGlobals ⟨⟨[108,97,119]⟩⟩=some (.ref 381):=by kernel_rfl
theorem Ay5:Gj (A0 g w os) (⟨⟨[108,97,119]⟩⟩,.g (.ref 381)):=⟨by decide,.inl ⟨_,(congrFun (Gk g w os) _).trans (Axm g w),rfl⟩⟩
theorem Aw1:(Ae g w).nsMap mainGlobals ⟨⟨[108,101,110]⟩⟩=none:=by kernel_rfl
theorem Ax3:(Ae g w).nsMap builtinsNs ⟨⟨[108,101,110]⟩⟩=some (.builtin "len"):=by kernel_rfl
theorem Ayn:Gj (A0 g w os) (⟨⟨[108,101,110]⟩⟩,.g (.builtin "len")):=⟨by decide,.inr ⟨_,rfl,(congrFun (Gk g w os) _).trans (Aw1 g w),(congrFun (zmb g w os) _).trans (Ax3 g w)⟩⟩
theorem Ayi:(Ae g w).nsMap mainGlobals ⟨⟨[111,114,100]⟩⟩=none:=by kernel_rfl
theorem Ay1:(Ae g w).nsMap builtinsNs ⟨⟨[111,114,100]⟩⟩=some (.builtin "ord"):=by kernel_rfl
theorem Ayk:Gj (A0 g w os) (⟨⟨[111,114,100]⟩⟩,.g (.builtin "ord")):=⟨by decide,.inr ⟨_,rfl,(congrFun (Gk g w os) _).trans (Ayi g w),(congrFun (zmb g w os) _).trans (Ay1 g w)⟩⟩
theorem Ayb:(Ae g w).nsMap mainGlobals ⟨⟨[99,104,114]⟩⟩=none:=by kernel_rfl
theorem Awx:(Ae g w).nsMap builtinsNs ⟨⟨[99,104,114]⟩⟩=some (.builtin "chr"):=by kernel_rfl
theorem Ax0:Gj (A0 g w os) (⟨⟨[99,104,114]⟩⟩,.g (.builtin "chr")):=⟨by decide,.inr ⟨_,rfl,(congrFun (Gk g w os) _).trans (Ayb g w),(congrFun (zmb g w os) _).trans (Awx g w)⟩⟩
theorem Ayh:(Ae g w).nsMap mainGlobals ⟨⟨[114,97,110,103,101]⟩⟩=none:=by kernel_rfl
theorem Awu:(Ae g w).nsMap builtinsNs ⟨⟨[114,97,110,103,101]⟩⟩=some (.type "range"):=by kernel_rfl
theorem Ax7:Gj (A0 g w os) (⟨⟨[114,97,110,103,101]⟩⟩,.g (.type "range")):=⟨by decide,.inr ⟨_,rfl,(congrFun (Gk g w os) _).trans (Ayh g w),(congrFun (zmb g w os) _).trans (Awu g w)⟩⟩
theorem Axj:(Ae g w).nsMap mainGlobals ⟨⟨[115,111,114,116,101,100]⟩⟩=none:=by kernel_rfl
theorem Ay4:(Ae g w).nsMap builtinsNs ⟨⟨[115,111,114,116,101,100]⟩⟩=some (.builtin "sorted"):=by kernel_rfl
theorem Ayj:Gj (A0 g w os) (⟨⟨[115,111,114,116,101,100]⟩⟩,.g (.builtin "sorted")):=⟨by decide,.inr ⟨_,rfl,(congrFun (Gk g w os) _).trans (Axj g w),(congrFun (zmb g w os) _).trans (Ay4 g w)⟩⟩
theorem Axd:(Ae g w).nsMap mainGlobals ⟨⟨[116,121,112,101]⟩⟩=none:=by kernel_rfl
theorem Ayr:(Ae g w).nsMap builtinsNs ⟨⟨[116,121,112,101]⟩⟩=some (.type "type"):=by kernel_rfl
theorem Aw0:Gj (A0 g w os) (⟨⟨[116,121,112,101]⟩⟩,.g (.type "type")):=⟨by decide,.inr ⟨_,rfl,(congrFun (Gk g w os) _).trans (Axd g w),(congrFun (zmb g w os) _).trans (Ayr g w)⟩⟩
theorem Aw5:(Ae g w).nsMap mainGlobals ⟨⟨[115,116,114]⟩⟩=none:=by kernel_rfl
theorem Axy:(Ae g w).nsMap builtinsNs ⟨⟨[115,116,114]⟩⟩=some (.type "str"):=by kernel_rfl
theorem Axh:Gj (A0 g w os) (⟨⟨[115,116,114]⟩⟩,.g (.type "str")):=⟨by decide,.inr ⟨_,rfl,(congrFun (Gk g w os) _).trans (Aw5 g w),(congrFun (zmb g w os) _).trans (Axy g w)⟩⟩
theorem Ay0:(Ae g w).nsMap mainGlobals ⟨⟨[108,105,115,116]⟩⟩=none:=by kernel_rfl
theorem Ay6:(Ae g w).nsMap builtinsNs ⟨⟨[108,105,115,116]⟩⟩=some (.type "list"):=by kernel_rfl
theorem Axe:Gj (A0 g w os) (⟨⟨[108,105,115,116]⟩⟩,.g (.type "list")):=⟨by decide,.inr ⟨_,rfl,(congrFun (Gk g w os) _).trans (Ay0 g w),(congrFun (zmb g w os) _).trans (Ay6 g w)⟩⟩
theorem Awt:(Ae g w).nsMap mainGlobals ⟨⟨[95,110,97,109,101,95,100,105,115,97,108,108,111,119,101,100,95,114,101]⟩⟩=some (.ref 163):=by kernel_rfl
theorem Aym:Gj (A0 g w os) (⟨⟨[95,110,97,109,101,95,100,105,115,97,108,108,111,119,101,100,95,114,101]⟩⟩,.g (.ref 163)):=⟨by decide,.inl ⟨_,(congrFun (Gk g w os) _).trans (Awt g w),rfl⟩⟩
theorem Azd:(Ae g w).nsMap mainGlobals ⟨⟨[95,118,97,108,117,101,95,100,105,115,97,108,108,111,119,101,100,95,114,101]⟩⟩=some (.ref 168):=by kernel_rfl
theorem Ax4:Gj (A0 g w os) (⟨⟨[95,118,97,108,117,101,95,100,105,115,97,108,108,111,119,101,100,95,114,101]⟩⟩,.g (.ref 168)):=⟨by decide,.inl ⟨_,(congrFun (Gk g w os) _).trans (Azd g w),rfl⟩⟩
theorem Ayv:((Ae g w).nsMap mainGlobals ⟨⟨[78,84,95,79,70,70,83,69,84]⟩⟩).map (λv=>match v with | .int i _=>i | _=>-1)=some 256:=by kernel_rfl
theorem Ay3:Gj (A0 g w os) (⟨⟨[78,84,95,79,70,70,83,69,84]⟩⟩,.d (.int 256)):=by
 refine⟨by decide,.inl ?_⟩
 refine Ch (Ayv g w) λv h1 h2=>?_
 refine⟨v,(congrFun (Gk g w os) _).trans h1,?_⟩
 split at h2
 ·subst h2;exact⟨_,rfl⟩
 ·exact nomatch h2
theorem Axn:((Ae g w).nsMap mainGlobals ⟨⟨[69,78,68,77,65,82,75,69,82]⟩⟩).map (λv=>match v with | .int i _=>i | _=>-1)=some 0:=by kernel_rfl
theorem Axr:Gj (A0 g w os) (⟨⟨[69,78,68,77,65,82,75,69,82]⟩⟩,.d (.int 0)):=by
 refine⟨by decide,.inl ?_⟩
 refine Ch (Axn g w) λv h1 h2=>?_
 refine⟨v,(congrFun (Gk g w os) _).trans h1,?_⟩
 split at h2
 ·subst h2;exact⟨_,rfl⟩
 ·exact nomatch h2
theorem Ax6:(Ae g w).nsMap mainGlobals ⟨⟨[69,88,65,67,84,95,84,79,75,69,78,95,84,89,80,69,83]⟩⟩=some (.ref 130):=by kernel_rfl
theorem Ayg:Gj (A0 g w os) (⟨⟨[69,88,65,67,84,95,84,79,75,69,78,95,84,89,80,69,83]⟩⟩,.dstr D1):=⟨by decide,.inl ⟨_,(congrFun (Gk g w os) _).trans (Ax6 g w),_,rfl,Aj9 g w⟩⟩
theorem Ay7:(Ae g w).nsMap mainGlobals ⟨⟨[98,51,95,101,120,99,101,112,116,105,111,110,115]⟩⟩=some (.ref 84):=by kernel_rfl
include hg in
theorem Axp:Gj (A0 g w os) (⟨⟨[98,51,95,101,120,99,101,112,116,105,111,110,115]⟩⟩,.dint b3T):=⟨by decide,.inl ⟨_,(congrFun (Gk g w os) _).trans (Ay7 g w),_,rfl,Ape g hg w⟩⟩
theorem Ayd:(Ae g w).nsMap mainGlobals ⟨⟨[98,49,95,115,101,116]⟩⟩=some (.ref 73):=by kernel_rfl
theorem Ayu:Gj (A0 g w os) (⟨⟨[98,49,95,115,101,116]⟩⟩,.iset b1T):=⟨by decide,.inl ⟨_,(congrFun (Gk g w os) _).trans (Ayd g w),_,rfl,Anp g w⟩⟩
include hg in
theorem Aah:∀p∈G3,Gj (A0 g w os) p:=forall_mem_cons.2 ⟨gk0 g w os,forall_mem_cons.2 ⟨gk1 g w os,forall_mem_cons.2 ⟨gk2 g w os,forall_mem_cons.2 ⟨gk3 g w os,forall_mem_cons.2 ⟨gk4 g w os,forall_mem_cons.2 ⟨gk5 g w os,forall_mem_cons.2 ⟨gk6 g w os,forall_mem_cons.2 ⟨gk7 g w os,forall_mem_cons.2 ⟨gk8 g w os,forall_mem_cons.2 ⟨gk9 g w os,forall_mem_cons.2 ⟨Axt g w os,forall_mem_cons.2 ⟨Aww g w os,forall_mem_cons.2 ⟨Ayt g w os,forall_mem_cons.2 ⟨Ayw g w os,forall_mem_cons.2 ⟨Ays g w os,forall_mem_cons.2 ⟨Ayq g w os,forall_mem_cons.2 ⟨Aye g w os,forall_mem_cons.2 ⟨Ax8 g w os,forall_mem_cons.2 ⟨Ayz g w os,forall_mem_cons.2 ⟨Aw2 g w os,forall_mem_cons.2 ⟨Ay5 g w os,forall_mem_cons.2 ⟨Ayn g w os,forall_mem_cons.2 ⟨Ayk g w os,forall_mem_cons.2 ⟨Ax0 g w os,forall_mem_cons.2 ⟨Ax7 g w os,forall_mem_cons.2 ⟨Ayj g w os,forall_mem_cons.2 ⟨Aw0 g w os,forall_mem_cons.2 ⟨Axh g w os,forall_mem_cons.2 ⟨Axe g w os,forall_mem_cons.2 ⟨Aym g w os,forall_mem_cons.2 ⟨Ax4 g w os,forall_mem_cons.2 ⟨Ay3 g w os,forall_mem_cons.2 ⟨Axr g w os,forall_mem_cons.2 ⟨Ayg g w os,forall_mem_cons.2 ⟨Axp g hg w os,forall_mem_cons.2 ⟨Ayu g w os,λ_ h=>(nomatch h)⟩⟩⟩⟩⟩⟩⟩⟩⟩⟩⟩⟩⟩⟩⟩⟩⟩⟩⟩⟩⟩⟩⟩⟩⟩⟩⟩⟩⟩⟩⟩⟩⟩⟩⟩⟩
include hg in
theorem Wu:Jg (A0 g w os) G3:=λy v h=>Aah g hg w os (y,v) (Av h)
theorem Apq:(Ae g w).get? 162=some (Ajf w.params):=by kernel_rfl
theorem Aqz:(Ae g w).get? 163=some (Air w.params):=by kernel_rfl
theorem Ase:(Ae g w).get? 167=some (Aio w.params):=by kernel_rfl
theorem Awd:(Ae g w).get? 168=some (Ai0 w.params):=by kernel_rfl
theorem Zu:Gv (A0 g w os):=
 ⟨⟨_,_,162,_,_,_,Aqz g w,Apq g w,rfl,by kernel_rfl⟩,⟨_,_,167,_,_,_,Awd g w,Ase g w,rfl,by kernel_rfl⟩⟩
theorem Arz:(Ae g w).get? 297=some (Ai3 w.params):=by kernel_rfl
theorem Asj:(Ae g w).isNs 296=true:=by kernel_rfl
theorem cH1:(Ae g w).nsMap 296 "__getattribute__" = none:=by kernel_rfl
theorem cH2:(Ae g w).nsMap 296 "__getattr__" = none:=by kernel_rfl
theorem cH3:(Ae g w).nsMap 296 "_headers" = none:=by kernel_rfl
theorem c4:(Ae g w).nsMap 296 "add_header" = some (.ref 294):=by kernel_rfl
theorem c5:(Ae g w).nsMap 296 "get_all" = some (.ref 236):=by kernel_rfl
theorem c6:(Ae g w).nsMap 296 "_convert_string_type" = some (.ref 198):=by kernel_rfl
theorem c7:(Ae g w).nsMap 296 "__init__" = some (.ref 191):=by kernel_rfl
theorem c8:(Ae g w).nsMap 296 "__setattr__" = none:=by kernel_rfl
theorem J8:Fw (A0 g w os) ((Ae g w).nsMap 296) where
 cls:=⟨⟨_,_,_,_,_,_,_,_,_,_,_,_,(Arz g w).trans rfl⟩,.of_isNs (Asj g w)⟩
 ga:=cH1 g w
 gt:=cH2 g w
 hd:=cH3 g w
 add:=c4 g w
 all:=c5 g w
 conv:=c6 g w
 fn:=λa h=>by
  rcases h with rfl | rfl | rfl
  ·exact⟨_,_,Aig g w,rfl,rfl⟩
  ·exact⟨_,_,Aiq g w,rfl,rfl⟩
  ·exact⟨_,_,Ain g w,rfl,rfl⟩
theorem Aeu:Aem (A0 g w os) ((Ae g w).nsMap 296):=⟨⟨_,Ar3 g w os⟩,⟨_,Ajc g w,rfl⟩,c7 g w,c8 g w⟩
def FOk(Z:Bz)(p:Addr×B6):Prop:=(p.1≠198→∃fd,(B9 Z p.1 p.2 fd∧∀x∈p.2.sc.names,x.2≠.cell)∨Md Z p.1 p.2 fd∨Ps Z p.1 p.2 fd)∧(p.1=198→∃fd,O4 Z p.2 fd)
theorem Aac:∀p∈Ht,FOk (A0 g w os) p:=forall_mem_cons.2 ⟨⟨λ_=>⟨_,.inl ⟨Ayl g w os,by decide +kernel⟩⟩,λh=>absurd h (by decide)⟩,forall_mem_cons.2 ⟨⟨λ_=>⟨_,.inl ⟨Aw3 g w os,by decide +kernel⟩⟩,λh=>absurd h (by decide)⟩,forall_mem_cons.2 ⟨⟨λ_=>⟨_,.inl ⟨Axf g w os,by decide +kernel⟩⟩,λh=>absurd h (by decide)⟩,forall_mem_cons.2 ⟨⟨λ_=>⟨_,.inl ⟨Axv g w os,Ac2⟩⟩,λh=>absurd h (by decide)⟩,forall_mem_cons.2 ⟨⟨λ_=>⟨_,.inl ⟨Ava g w os,Vj⟩⟩,λh=>absurd h (by decide)⟩,forall_mem_cons.2 ⟨⟨λ_=>⟨_,.inl ⟨Aub g w os,Vy⟩⟩,λh=>absurd h (by decide)⟩,forall_mem_cons.2 ⟨⟨λ_=>⟨_,.inl ⟨Arn g w os,Vv⟩⟩,λh=>absurd h (by decide)⟩,forall_mem_cons.2 ⟨⟨λ_=>⟨_,.inl ⟨Av6 g w os,V5⟩⟩,λh=>absurd h (by decide)⟩,forall_mem_cons.2 ⟨⟨λh=>absurd rfl h,λ_=>⟨_,An9 g w os⟩⟩,forall_mem_cons.2 ⟨⟨λ_=>⟨_,.inr (.inl (Avi g w os))⟩,λh=>absurd h (by decide)⟩,forall_mem_cons.2 ⟨⟨λ_=>⟨_,.inr (.inr (Awk g w os))⟩,λh=>absurd h (by decide)⟩,forall_mem_cons.2 ⟨⟨λ_=>⟨_,.inl ⟨Aps g w os,Vp⟩⟩,λh=>absurd h (by decide)⟩,forall_mem_cons.2 ⟨⟨λ_=>⟨_,.inl ⟨Arm g w os,Wn⟩⟩,λh=>absurd h (by decide)⟩,forall_mem_cons.2 ⟨⟨λ_=>⟨_,.inl ⟨Anz g w os,V0⟩⟩,λh=>absurd h (by decide)⟩,forall_mem_cons.2 ⟨⟨λ_=>⟨_,.inl ⟨Awi g w os,V7⟩⟩,λh=>absurd h (by decide)⟩,forall_mem_cons.2 ⟨⟨λ_=>⟨_,.inl ⟨Awg g w os,Wq⟩⟩,λh=>absurd h (by decide)⟩,forall_mem_cons.2 ⟨⟨λ_=>⟨_,.inl ⟨Aoo g w os,W2⟩⟩,λh=>absurd h (by decide)⟩,forall_mem_cons.2 ⟨⟨λ_=>⟨_,.inl ⟨Ap1 g w os,Ww⟩⟩,λh=>absurd h (by decide)⟩,forall_mem_cons.2 ⟨⟨λ_=>⟨_,.inl ⟨Ann g w os,Wo⟩⟩,λh=>absurd h (by decide)⟩,forall_mem_cons.2 ⟨⟨λ_=>⟨_,.inl ⟨Aqe g w os,V8⟩⟩,λh=>absurd h (by decide)⟩,forall_mem_cons.2 ⟨⟨λ_=>⟨_,.inl ⟨At2 g w os,Vq⟩⟩,λh=>absurd h (by decide)⟩,forall_mem_cons.2 ⟨⟨λ_=>⟨_,.inr (.inl (Asx g w os))⟩,λh=>absurd h (by decide)⟩,forall_mem_cons.2 ⟨⟨λ_=>⟨_,.inl ⟨Auj g w os,Vk⟩⟩,λh=>absurd h (by decide)⟩,λ_ h=>(nomatch h)⟩⟩⟩⟩⟩⟩⟩⟩⟩⟩⟩⟩⟩⟩⟩⟩⟩⟩⟩⟩⟩⟩⟩
theorem An5:Ar4 (A0 g w os) Ht:=⟨λa fn h e=>(Aac g w os (a,fn) (Av e)).1 h,λfn e=>(Aac g w os (198,fn) (Av e)).2 rfl⟩
include hg in
theorem Ali:Aaa (A0 g w os) 297:=⟨λk cel=>Ag1 (Wu g hg w os) (Zu g w os) (J8 g w os) (Aeu g w os) k cel,.inr (.inr (.inr λA E s env pos es Q hp h=>by
 induction es using List.casesOn with
 | nil=>
  have h':wpAny (model A6 w) A (spliced []) (λvs s₁=>Bo (Ae g w) s₁.heap∧wpAny (model A6 w) A (call (.ref 297) vs) Q E s₁) E s:=h
  intro Γ p hΓ
  have h2:Bo (Ae g w) s.heap∧wpAny (model A6 w) A (call (.ref 297) []) Q E s:=by simpa [spliced]using h' Γ p hΓ
  exact callWith_cls0 (J8 g w os).cls h2.1 h2.2 Γ p hΓ
 | cons e rest=>
  have h0:=hp e (mem_cons_self ..)
  refine callWith_cls (J8 g w os).cls h ?_ ?_
  ·have h1:=nst h0
   clear h0
   induction e using Expr.casesOn with
   | Starred=>exact J3 h1
   | _=>rfl
  ·rw[Cw λe he=>hp e (mem_cons_of_mem _ he)]
   simp[Function.comp_def]))⟩
include hg in
theorem Ab7(N n:Nat):Yv (A0 g w os) (n+2) (Gu N n):=Rv (Wu g hg w os) (An5 g w os) (Ali g hg w os) (Zu g w os) (J8 g w os) N n
end
end
noncomputable section
open PySem
structure Le(r r':I):Prop where
 e:∀{sc e σ x},r.e sc e σ=some x→r'.e sc e σ=some x
 es:∀{sc es σ x},r.es sc es σ=some x→r'.es sc es σ=some x
 t:∀{sc t σ x},r.t sc t σ=some x→r'.t sc t σ=some x
 s:∀{sc st σ x},r.s sc st σ=some x→r'.s sc st σ=some x
 ss:∀{sc sts σ x},r.ss sc sts σ=some x→r'.ss sc sts σ=some x
 w:∀{sc t b σ x},r.w sc t b σ=some x→r'.w sc t b σ=some x
def CLe(C C':B8):Prop:=∀f args cel x,C f args cel=some x→C' f args cel=some x
theorem Bb{α β:Type}{a a':Option α}{f f':α→Option β}{y:β}(h:a.bind f=some y)(ha:∀x,a=some x→a'=some x)(hf:∀x,f x=some y→f' x=some y):a'.bind f'=some y:=by
 refine Ay h λx h1 h2=>?_
 clear h
 rw[ha x h1]
 exact hf x h2
theorem Abl{α β:Type}{a a':Option α}{f:α→β}{y:β}(h:a.map f=some y)(ha:∀x,a=some x→a'=some x):a'.map f=some y:=by
 refine Ch h λx h1 h2=>?_
 clear h
 rw[ha x h1,map_some,h2]
section
variable {r r':I} {C C':B8} {G:List (Str×AV)} {sc:Scope}
theorem Nf(L:Le r r'){σ:St}(h:Iw r sc e σ=some x):Iw r' sc e σ=some x:=by
 induction e with
 | none=>exact h
 | some e=>exact Bb h (λ_=>L.e) (λ_ h=>h)
theorem Th(L:Le r r')(h:Fm r sc ts σ=some x):Fm r' sc ts σ=some x:=by
 delta Fm at h⊢
 split at h
 ·exact h
 ·exact L.t h
 ·exact Am h
theorem Tf(L:Le r r'){i:Nat}(h:Hs r sc elt i σ=some x):Hs r' sc elt i σ=some x:=by
 exact Bb h (λ_=>L.e) (λ_ h=>h)
theorem E7(L:Le r r'){i:Nat}:∀{ds:List D} {σ x:St},Cd r sc elt i t ifs ds σ=some x→Cd r' sc elt i t ifs ds σ=some x
 | [],_,_,h=>h
 | d::ds,σ,x,h=>by
  refine Bb h (λ_ h=>h) λσ h=>Bb h (λ_=>Th L) λy h=>?_
  obtain⟨b,σ'⟩:=y
  induction b with
  | true=>exact Bb h (λ_=>Tf L) λσ h=>E7 L h
  | false=>exact E7 L h
theorem Ji(L:Le r r'){i:Nat}:∀{ds:List D} {σ x:St},Dt r sc elt i t g ds σ=some x→Dt r' sc elt i t g ds σ=some x
 | [],_,_,h=>h
 | d::ds,σ,x,h=>by
  exact Bb h (λ_ h=>h) λσ h=>Bb h (λ_=>L.e) λy h=>Bb h (λ_ h=>h) λz h=>Bb h (λ_=>E7 L) λσ h=>Ji L h
theorem Jf{body body':St→Option (Fl×St)}(hb:∀σ x,body σ=some x→body' σ=some x):∀{ds:List D} {σ:St} {x:Fl×St},H3 body sc t ds σ=some x→H3 body' sc t ds σ=some x
 | [],_,_,h=>h
 | d::ds,σ,x,h=>by
  refine Bb h (λ_ h=>h) λσ h=>Bb h (λ_=>hb _ _) λy h=>?_
  obtain⟨fl,σ'⟩:=y
  induction fl with
  | next=>exact Jf hb h
  | cont=>exact Jf hb h
  | brk=>exact h
  | ret v=>exact h
theorem Ah7(L:Le r r')(hC:CLe C C')(h:SE G C r sc e σ v σ'):SE G C' r' sc e σ v σ':=
 SE.casesOn (motive:=λe σ v σ' _=>SE G C' r' sc e σ v σ') h .int .str .non .bool .glob .name .neg (λh1 h2 h3=>.bin (L.e h1) (L.e h2) h3) (λh1 h2 h3=>.cmp (L.e h1) (L.e h2) h3) (λh1 h2=>.ite (L.t h1) (L.e h2))
  (λh1 h2 h3 h4=>.slice (L.e h1) (Nf L h2) (Nf L h3) h4) (λhs h1 h2 h3=>.item hs (L.e h1) (L.e h2) h3) (λh1 h2 h3=>.list (L.es h1) h2 h3) (λh1 h2 h3=>.tuple (L.es h1) h2 h3)
  (λh0 h1 h2 h3=>.dictS h0 h1 (L.es h2) h3) (λh0 h4 h1 h2 h3=>.dictI h0 h4 h1 (L.es h2) h3) (λhg hx h1 h2 h3=>.meth hg hx (L.e h1) (L.es h2) h3) (λhg h1 h2 hf h3=>.hmeth hg (L.e h1) (L.es h2) hf (hC _ _ _ _ h3))
  (λhg h1 h2 h3=>.conv hg (L.e h1) (L.e h2) (hC _ _ _ _ h3)) (λhg h1=>.hattr hg (L.e h1)) (λh1 h2 hf h3=>.call (L.e h1) (L.es h2) hf (hC _ _ _ _ h3)) (λhg h1 h2 h3=>.lc hg (L.e h1) h2 (E7 L h3)) (λhg hi h1 h2 h3=>.lc2 hg hi (L.e h1) h2 (Ji L h3))
theorem Ux(L:Le r r')(hC:CLe C C')(h:Bx G C r sc e σ=some x):Bx G C' r' sc e σ=some x:=(Ah7 L hC (SE.of (v:=x.1) (σ':=x.2) h)).to
end
section
variable {r r':I} {C C':B8} {G:List (Str×AV)} {sc:Scope}
theorem Ae7(L:Le r r')(h:SJ r sc e σ b σ'):SJ r' sc e σ b σ':=
 SJ.casesOn (motive:=λe σ b σ' _=>SJ r' sc e σ b σ') h (λh1=>.not (L.t h1)) (λh1 h2 h3=>.and (L.t h1) (λe=>L.t (h2 e)) h3) (λh1 h2 h3=>.or (L.t h1) (λe=>L.t (h2 e)) h3) (λh1=>.cmp (L.e h1)) (λh1=>.call (L.e h1)) (λh1=>.calln (L.e h1)) (λh1=>.name (L.e h1))
theorem Tw(L:Le r r')(h:Jq r sc e σ=some x):Jq r' sc e σ=some x:=(Ae7 L (SJ.of (b:=x.1) (σ':=x.2) h)).to
theorem Agi(L:Le r r'){st:Stmt}{σ:St}{fl:Fl}{σ':St}(h:SK r sc st σ fl σ'):SK r' sc st σ fl σ':=
 SK.casesOn (motive:=λst σ fl σ' _=>SK r' sc st σ fl σ') h .pass (λh1=>.ret (L.e h1)) (λh1=>.exprN (L.e h1)) (λh1=>.exprI (L.e h1)) (λh1 h2=>.assign (L.e h1) h2) (λh1 h2 h3 h4 h5=>.setall (L.e h1) (L.e h2) h3 h4 h5) (λh0 h1 h2 h3 h4 h5=>.setitem h0 (L.e h1) (L.e h2) (L.e h3) h4 h5)
  (λh1 h2=>.ite (L.t h1) (L.ss h2)) (λh1=>.whl (L.w h1)) (λh0 h1=>.items h0 (L.e h1)) (λh0 h1 h2 h3=>.for h0 (L.e h1) h2 (Jf (λ_ _=>L.ss) h3))
theorem Ut(L:Le r r'){st:Stmt}{σ:St}{x:Fl×St}(h:Ec r sc st σ=some x):Ec r' sc st σ=some x:=(Agi L (SK.of (fl:=x.1) (σ':=x.2) h)).to
set_option tactic.hygienic true in
theorem Gy(hC:CLe C C'):∀{n m:Nat},n≤m→Le (Ba G C n) (Ba G C' m)
 | 0,_,_=>by constructor<;>(intros;rename_i h;exact Am h)
 | n+1,0,h=>by lia
 | n+1,m+1,h=>by
  have L:=Gy hC (n:=n) (m:=m) (by lia)
  refine⟨fun{sc e σ x} h=>Ux L hC h,fun{sc es σ x} h=>?_,fun{sc t σ x} h=>Tw L h,fun{sc st σ x} h=>Ut L h,fun{sc sts σ x} h=>?_,fun{sc t b σ x} h=>?_⟩
  ·induction es using List.casesOn with
   | nil=>exact h
   | cons e es=>exact Bb h (λ_=>L.e) λx h=>Abl h (λ_=>L.es)
  ·induction sts using List.casesOn with
   | nil=>exact h
   | cons st rest=>
    refine Bb h (λ_=>L.s) λx h=>?_
    obtain⟨fl,σ'⟩:=x
    induction fl with
    | next=>exact L.ss h
    | brk=>exact h
    | cont=>exact h
    | ret v=>exact h
  ·refine Bb h (λ_=>L.t) λx h=>?_
   obtain⟨b,σ'⟩:=x
   induction b with
   | false=>exact h
   | true=>
    refine Bb h (λ_=>L.ss) λy h=>?_
    obtain⟨fl,σ''⟩:=y
    induction fl with
    | next=>exact L.w h
    | cont=>exact L.w h
    | brk=>exact h
    | ret v=>exact h
theorem L0(hC:CLe C C'){N M:Nat}(hN:N≤M){fn:B6}{args:List AV}{cel:List Ad}{x:AV×List Ad}(h:Fp G N C fn args cel=some x):Fp G M C' fn args cel=some x:=by
 exact Bb h (λ_ h=>h) λloc h=>Bb h (λ_=>(Gy hC hN).ss) λy h=>h
theorem Il(hN:N≤M):∀{n m:Nat},n≤m→CLe (U3 G N FT hd n) (U3 G M FT hd m)
 | 0,_,_=>λ_ _ _ _ h=>by exact Am h
 | n+1,0,h=>by lia
 | n+1,m+1,h=>by
  have L:CLe (U3 G N FT hd n) (U3 G M FT hd m):=Il hN (by lia)
  intro f args cel x h
  change Cu G N FT hd (U3 G N FT hd n) f args cel=some x at h
  show Cu G M FT hd (U3 G M FT hd m) f args cel=some x
  exact Vl (P:=λf=>Cu G M FT hd (U3 G M FT hd m) f args cel=some x) h (λ_ h=>h) (λ_ h=>h) (λfn h1 h=>by
   show(FT.lookup 198).bind _=_;rw[h1];exact L0 L hN h) (λh1 h=>by rw[h1,Adf];exact h) λa fn h1 h2 h3 h=>(Zw h1 h2 h3).trans (L0 L hN h)
end
noncomputable abbrev IP(N d:Nat):I:=Ba G3 (Gu N d) N
def Ev(d:Nat)(sc:Scope)(e:Expr)(σ:St)(v:AV)(σ':St):Prop:=∃N,(IP N d).e sc e σ=some (v,σ')
def Af(d:Nat)(sc:Scope)(es:List Expr)(σ:St)(vs:List AV)(σ':St):Prop:=∃N,(IP N d).es sc es σ=some (vs,σ')
def Tv(d:Nat)(sc:Scope)(e:Expr)(σ:St)(b:Bool)(σ':St):Prop:=∃N,(IP N d).t sc e σ=some (b,σ')
def Sx(d:Nat)(sc:Scope)(st:Stmt)(σ:St)(fl:Fl)(σ':St):Prop:=∃N,(IP N d).s sc st σ=some (fl,σ')
def Xs(d:Nat)(sc:Scope)(sts:List Stmt)(σ:St)(fl:Fl)(σ':St):Prop:=∃N,(IP N d).ss sc sts σ=some (fl,σ')
def Wh(d:Nat)(sc:Scope)(t:Expr)(b:List Stmt)(σ:St)(fl:Fl)(σ':St):Prop:=∃N,(IP N d).w sc t b σ=some (fl,σ')
def Cl(d:Nat)(f:Value)(args:List AV)(cel:List Ad)(v:AV)(cel':List Ad):Prop:=∃N,Gu N d f args cel=some (v,cel')
noncomputable abbrev IQ(N d:Nat):I:=Ba G3 (Gu (N+1) d) N
theorem Jl(h:N≤M):Le (IP N d) (IQ M d):=Gy (Il (le_trans h (le_succ M)) (le_refl d)) h
section
variable {d:Nat} {sc:Scope} {σ σ₁ σ₂ σ₃:St}
theorem Ev.of(h:SE G3 (Gu (N+1) d) (IQ N d) sc e σ v σ₁):Ev d sc e σ v σ₁:=⟨N+1,h.to⟩
theorem Tv.of(h:SJ (IQ N d) sc e σ b σ₁):Tv d sc e σ b σ₁:=⟨N+1,h.to⟩
theorem Sx.of{N:Nat}{st:Stmt}{fl:Fl}(h:SK (IQ N d) sc st σ fl σ₁):Sx d sc st σ fl σ₁:=⟨N+1,h.to⟩
theorem Azn(h1:Ev d sc l σ a σ₁)(h2:Ev d sc r σ₁ b σ₂)(h:binop op a b σ₂=some (v,σ₃)):Ev d sc (.BinOp l op r p) σ v σ₃:=by
 refine xe h1 λN h1=>?_
 refine xe h2 λM h2=>?_
 have e1:=(Jl (d:=d) (le_max_left N M)).e h1
 have e2:=(Jl (d:=d) (le_max_right N M)).e h2
 exact Ev.of (.bin e1 e2 h)
end
theorem Dc{i:Expr}(h:Nat.beq i.ctorIdx (Expr.Slice none none none default).ctorIdx=false)(l u s:Option Expr)(q:Pos):i≠.Slice l u s q:=λe=>by subst e;exact J3 h
theorem nsi{i:Expr}(h:Nat.beq i.ctorIdx (Expr.Slice none none none default).ctorIdx=false)(q:Pos):i≠.Slice none none none q:=Dc h _ _ _ q
theorem Mq{x:AV}(h:Nat.beq x.ctorIdx (AV.hdr 0).ctorIdx=false)(i:Nat):x≠.hdr i:=λe=>by subst e;exact J3 h
theorem nfa(h:Nat.beq x.ctorIdx (Expr.Call x [] [] default).ctorIdx=false)(f:Expr)(q:Str)(r:Pos)(s:List Keyword)(u:Pos):x≠.Call (.Attribute f q r) [] s u:=λe=>by subst e;exact J3 h
theorem nfb(h:Nat.beq g.ctorIdx (Expr.Attribute g ⟨⟨[]⟩⟩ default).ctorIdx=false)(f:Expr)(q:Str)(r:Pos)(s:List Keyword)(u:Pos): .Call g as ks p≠Expr.Call (.Attribute f q r) [] s u:=λe=>by injection e with e;subst e;exact J3 h
theorem nfc(f:Expr)(q:Str)(r:Pos)(s:List Keyword)(u:Pos): .Call g (a::as) ks p≠Expr.Call (.Attribute f q r) [] s u:=λe=>by injection e with _ e;exact ncn e
section
variable {d:Nat} {sc:Scope} {σ σ₁ σ₂ σ₃:St}
theorem Ev.at(h:Ev d sc e σ v σ₁):∃N,∀K,N≤K→(IQ K d).e sc e σ=some (v,σ₁):=let ⟨N,h⟩:=h;⟨N,λK hK=>(Jl hK).e h⟩
theorem Af.at(h:Af d sc es σ vs σ₁):∃N,∀K,N≤K→(IQ K d).es sc es σ=some (vs,σ₁):=let ⟨N,h⟩:=h;⟨N,λK hK=>(Jl hK).es h⟩
theorem Tv.at(h:Tv d sc e σ b σ₁):∃N,∀K,N≤K→(IQ K d).t sc e σ=some (b,σ₁):=let ⟨N,h⟩:=h;⟨N,λK hK=>(Jl hK).t h⟩
theorem Sx.at{st:Stmt}{fl:Fl}(h:Sx d sc st σ fl σ₁):∃N,∀K,N≤K→(IQ K d).s sc st σ=some (fl,σ₁):=let ⟨N,h⟩:=h;⟨N,λK hK=>(Jl hK).s h⟩
theorem Xs.at(h:Xs d sc sts σ fl σ₁):∃N,∀K,N≤K→(IQ K d).ss sc sts σ=some (fl,σ₁):=let ⟨N,h⟩:=h;⟨N,λK hK=>(Jl hK).ss h⟩
theorem Wh.at(h:Wh d sc t b σ fl σ₁):∃N,∀K,N≤K→(IQ K d).w sc t b σ=some (fl,σ₁):=let ⟨N,h⟩:=h;⟨N,λK hK=>(Jl hK).w h⟩
theorem Cl.at(h:Cl d f args cel v cel'):∃N,∀K,N≤K→Gu K d f args cel=some (v,cel'):=let ⟨N,h⟩:=h;⟨N,λK hK=>Il hK (le_refl d) _ _ _ _ h⟩
theorem Cl.deeper(h:Cl d f args cel v cel')(hm:d≤m):Cl m f args cel v cel':=let ⟨N,h⟩:=h;⟨N,Il (le_refl N) hm _ _ _ _ h⟩
theorem Azo:Ev d sc (.Constant (.int i) n p) σ (.d (.int i)) σ:=⟨1,rfl⟩
theorem Ev.str:Ev d sc (.Constant (.str x) n p) σ (.d (.str x)) σ:=⟨1,rfl⟩
theorem Ev.none:Ev d sc (.Constant .none n p) σ (.d .none) σ:=⟨1,rfl⟩
theorem Ev.bool:Ev d sc (.Constant (.bool b) n p) σ (.d (.bool b)) σ:=⟨1,rfl⟩
theorem Ev.neg:Ev d sc (.UnaryOp .USub (.Constant (.int i) n p) p') σ (.d (.int (-i))) σ:=⟨1,rfl⟩
theorem Ev.glob(hk:sc.names.lookup y=some .globalImplicit)(hv:G3.lookup y=some v):Ev d sc (.Name y p) σ v σ:=Ev.of (N:=0) (.glob hk hv)
theorem Ev.name(i:Nat)(hk:sc.names.lookup y=some k)(h1:k≠.globalImplicit)(h2:k≠.globalExplicit)(hi:ix sc y=some i)(hv:σ.loc[i]? = some (some v)):Ev d sc (.Name y p) σ v σ:=Ev.of (N:=0) (.name hk h1 h2 hi hv)
theorem Azr(h1:Ev d sc a σ x σ₁)(h2:Ev d sc b σ₁ y σ₂)(h:cmp op x y σ₂.cel=some c):Ev d sc (.Compare a [op] [b] p) σ (.d (.bool c)) σ₂:=by
 refine xe h1.at λN h1=>?_
 refine xe h2.at λM h2=>?_
 exact Ev.of (N:=N+M) (.cmp (h1 _ (le_add_right N M)) (h2 _ (le_add_left M N)) h)
theorem Ev.ite(h1:Tv d sc t σ c σ₁)(h2:Ev d sc (if c then a else b) σ₁ v σ₂):Ev d sc (.IfExp t a b p) σ v σ₂:=by
 refine xe h1.at λN h1=>?_
 refine xe h2.at λM h2=>?_
 exact Ev.of (N:=N+M) (.ite (h1 _ (le_add_right N M)) (h2 _ (le_add_left M N)))
theorem Azs(hs:∀l u s q,i≠.Slice l u s q)(h1:Ev d sc a σ x σ₁)(h2:Ev d sc i σ₁ y σ₂)(h:item x y σ₂.cel=some v):Ev d sc (.Subscript a i p) σ v σ₂:=by
 refine xe h1.at λN h1=>?_
 refine xe h2.at λM h2=>?_
 exact Ev.of (N:=N+M) (.item (λlo hi q=>hs lo hi _ q) (h1 _ (le_add_right N M)) (h2 _ (le_add_left M N)) h)
theorem Azj:Af d sc [] σ [] σ:=⟨1,rfl⟩
theorem Azh(h1:Ev d sc e σ v σ₁)(h2:Af d sc es σ₁ vs σ₂):Af d sc (e::es) σ (v::vs) σ₂:=by
 refine xe h1.at λN h1=>?_
 refine xe h2.at λM h2=>?_
 refine⟨N+M+1,?_⟩
 show((IQ (N+M) d).e sc e σ).bind (λx=>((IQ (N+M) d).es sc es x.2).map λy=>(x.1::y.1,y.2))=_
 simp only[h1 _ (le_add_right N M),h2 _ (le_add_left M N),bind_some,map_some]
theorem Azp(hf:R4 g=true)(h1:Ev d sc (.Name f p) σ (.g g) σ₁)(h2:Af d sc args σ₁ vs σ₂)(h:Cl d g vs σ₂.cel v cel'):Ev d sc (.Call (.Name f p) args [] p') σ v ⟨σ₂.loc,cel'⟩:=by
 refine xe h1.at λN h1=>?_
 refine xe h2.at λM h2=>?_
 refine xe h.at λL h=>?_
 exact Ev.of (N:=N+M+L) (.call (h1 _ (by lia)) (h2 _ (by lia)) hf (h _ (by lia)))
theorem Azm:Xs d sc [] σ .next σ:=⟨1,rfl⟩
theorem Azg{st:Stmt}{rest:List Stmt}{fl:Fl}(h1:Sx d sc st σ .next σ₁)(h2:Xs d sc rest σ₁ fl σ₂):Xs d sc (st::rest) σ fl σ₂:=by
 refine xe h1.at λN h1=>?_
 refine xe h2.at λM h2=>?_
 refine⟨N+M+1,?_⟩
 show((IQ (N+M) d).s sc st σ).bind (λx=>match x with | (.next,σ)=>(IQ (N+M) d).ss sc rest σ | x=>some x)=_
 simp only[h1 _ (le_add_right N M),bind_some,h2 _ (le_add_left M N)]
theorem Xs.ret{st:Stmt}{rest:List Stmt}{v:AV}(h1:Sx d sc st σ (.ret v) σ₁):Xs d sc (st::rest) σ (.ret v) σ₁:=by
 refine xe h1.at λN h1=>?_
 refine⟨N+1,?_⟩
 show((IQ N d).s sc st σ).bind (λx=>match x with | (.next,σ)=>(IQ N d).ss sc rest σ | x=>some x)=_
 simp only[h1 _ (le_refl N),bind_some]
theorem Sx.ret(h1:Ev d sc e σ v σ₁):Sx d sc (.Return (some e) p) σ (.ret v) σ₁:=by
 refine xe h1.at λN h1=>?_
 exact Sx.of (.ret (h1 _ (le_refl N)))
theorem Azi(h1:Ev d sc e σ v σ₁)(h:σ₁.setName sc y v=some σ₂):Sx d sc (.Assign [.Name y p] e p') σ .next σ₂:=by
 refine xe h1.at λN h1=>?_
 exact Sx.of (.assign (h1 _ (le_refl N)) h)
theorem Azq(h1:Tv d sc t σ c σ₁)(h2:Xs d sc (if c then a else b) σ₁ fl σ₂):Sx d sc (.If t a b p) σ fl σ₂:=by
 refine xe h1.at λN h1=>?_
 refine xe h2.at λM h2=>?_
 exact Sx.of (N:=N+M) (.ite (h1 _ (le_add_right N M)) (h2 _ (le_add_left M N)))
theorem Cl.def{a:Addr}{fn:B6}{args:List AV}{loc:List (Option AV)}{cel:List Ad}{fl:Fl}{σ':St}(h1:(a=297)=False)(h2:(a=198)=False)(hl:Ht.lookup a=some fn)(hb:bindArgs fn args=some loc)
  (h:Xs d fn.sc fn.body ⟨loc,cel⟩ fl σ') (hfl:fl = .next∨∃v,fl = .ret v):Cl (d+1) (.ref a) args cel (match fl with | .ret v=>v | _=>.d .none) σ'.cel:=by
 refine xe h λN h=>?_
 refine⟨N,?_⟩
 show Cu G3 N Ht 297 (Gu N d) (.ref a) args cel=_
 rw[Zw (of_eq_false h1) (of_eq_false h2) hl]
 show(bindArgs fn args).bind _=_
 rw[hb]
 show((Ba G3 (Gu N d) N).ss fn.sc fn.body ⟨loc,cel⟩).bind _=_
 rw[h]
 rcases hfl with rfl | ⟨v,rfl⟩<;>rfl
end
inductive Pt(d:Nat)(sc:Scope):Option Expr→St→Option Int→St→Prop
 | no {σ:St}:Pt d sc none σ none σ
 | yes {e:Expr} {σ σ':St} {i:Int}:Ev d sc e σ (.d (.int i)) σ'→Pt d sc (some e) σ (some i) σ'
inductive Fr(d:Nat)(sc:Scope)(b:List Stmt)(t:Expr):List D→St→Fl→St→Prop
 | nil {σ:St}:Fr d sc b t [] σ .next σ
 | next {v:D} {vs:List D} {σ σ₁ σ₂ σ₃:St} {fl:Fl}:bindT sc t v σ=some σ₁→Xs d sc b σ₁ .next σ₂→Fr d sc b t vs σ₂ fl σ₃→Fr d sc b t (v::vs) σ fl σ₃
 | ret {v:D} {vs:List D} {σ σ₁ σ₂:St} {u:AV}:bindT sc t v σ=some σ₁→Xs d sc b σ₁ (.ret u) σ₂→Fr d sc b t (v::vs) σ (.ret u) σ₂
inductive Tn(d:Nat)(sc:Scope)(elt:Expr)(i:Nat)(t:Expr)(ifs:List Expr):List D→St→St→Prop
 | nil {σ:St}:Tn d sc elt i t ifs [] σ σ
 | skip {v:D} {vs:List D} {σ σ₁ σ₂ σ₃:St} {e:Expr}:ifs=[e]→bindT sc t v σ=some σ₁→Tv d sc e σ₁ false σ₂→Tn d sc elt i t ifs vs σ₂ σ₃→Tn d sc elt i t ifs (v::vs) σ σ₃
 | take {v:D} {vs:List D} {σ σ₁ σ₂ σ₃ σ₄:St} {u:AV} {x:D} {cel:List Ad} {xs:List D}:bindT sc t v σ=some σ₁→(ifs=[]∧σ₂=σ₁∨∃e,ifs=[e]∧Tv d sc e σ₁ true σ₂)→Ev d sc elt σ₂ u σ₃→
   toD σ₃.cel u=some (x,cel)→cel[i]? = some (.m xs)→fits (xs.length+1)=true→Tn d sc elt i t ifs vs ⟨σ₃.loc,cel.set i (.m (xs++[x]))⟩ σ₄→Tn d sc elt i t ifs (v::vs) σ σ₄
section
variable {d:Nat} {sc:Scope} {σ σ₁ σ₂ σ₃:St}
theorem Pt.at(h:Pt d sc e σ i σ₁):∃N,∀K,N≤K→Iw (IQ K d) sc e σ=some (i,σ₁):=by
 induction h with
 | no=>exact⟨0,λ_ _=>rfl⟩
 | yes h=>
  refine xe h.at λN h=>?_
  exact⟨N,λK hK=>by simp only[Iw,h K hK,bind_some]⟩
theorem Ev.slice(h1:Ev d sc a σ x σ₁)(h2:Pt d sc lo σ₁ i σ₂)(h3:Pt d sc hi σ₂ j σ₃)(h:cut x i j σ₃=some (v,σ₄)):Ev d sc (.Subscript a (.Slice lo hi Option.none p) p') σ v σ₄:=by
 refine xe h1.at λN h1=>?_
 refine xe h2.at λM h2=>?_
 refine xe h3.at λL h3=>?_
 exact Ev.of (N:=N+M+L) (.slice (h1 _ (by lia)) (h2 _ (by lia)) (h3 _ (by exact le_add_left _ _)) h)
theorem Ev.list(h1:Af d sc es σ vs σ₁)(h2:toDs σ₁.cel vs=some (ds,cel))(h3:fits ds.length=true):Ev d sc (.List es p) σ (.cell cel.length) ⟨σ₁.loc,cel++[.m ds]⟩:=by
 refine xe h1.at λN h1=>?_
 exact Ev.of (.list (h1 _ (le_refl N)) h2 h3)
theorem Ev.tuple(h1:Af d sc es σ vs σ₁)(h2:toDs σ₁.cel vs=some (ds,cel))(h3:fits ds.length=true):Ev d sc (.Tuple es n p) σ (.d (.tup ds)) ⟨σ₁.loc,cel⟩:=by
 refine xe h1.at λN h1=>?_
 exact Ev.of (.tuple (h1 _ (le_refl N)) h2 h3)
theorem Ev.meth{a:Expr}{name:Str}{ap p:Pos}{args:List Expr}{vs:List AV}(hg:(ap.endLine != p.line || !Cy a||Nat.ble 29 args.length)=false)(hx:∀i,x≠.hdr i)(h1:Ev d sc a σ x σ₁)(h2:Af d sc args σ₁ vs σ₂)
  (h:meth x name vs σ₂=some (v,σ₃)):Ev d sc (.Call (.Attribute a name ap) args [] p) σ v σ₃:=by
 refine xe h1.at λN h1=>?_
 refine xe h2.at λM h2=>?_
 exact Ev.of (N:=N+M) (.meth hg hx (h1 _ (le_add_right N M)) (h2 _ (le_add_left M N)) h)
theorem Ev.hmeth{a:Expr}{name:Str}{ap p:Pos}{args:List Expr}{i:Nat}{f:Addr}{vs:List AV}{cel:List Ad}(hg:(ap.endLine != p.line || !Cy a||Nat.ble 29 args.length)=false)(hf:N2 name=some f)(h1:Ev d sc a σ (.hdr i) σ₁)(h2:Af d sc args σ₁ vs σ₂)
  (h:Cl d (.ref f) (.hdr i::vs) σ₂.cel v cel):Ev d sc (.Call (.Attribute a name ap) args [] p) σ v ⟨σ₂.loc,cel⟩:=by
 refine xe h1.at λN h1=>?_
 refine xe h2.at λM h2=>?_
 refine xe h.at λL h=>?_
 exact Ev.of (N:=N+M+L) (.hmeth hg (h1 _ (by lia)) (h2 _ (by lia)) hf (h _ (by lia)))
theorem Fr.at(h:Fr d sc b t ds σ fl σ₁):∃N,∀K,N≤K→H3 ((IQ K d).ss sc b) sc t ds σ=some (fl,σ₁):=by
 induction h with
 | nil=>exact⟨0,λ_ _=>rfl⟩
 | next h1 h2 _ ih=>
  refine xe h2.at λN h2=>?_
  refine xe ih λM ih=>?_
  exact⟨N+M,λK hK=>by simp only[H3,h1,bind_some,h2 K (by exact le_trans (le_add_right _ _) ‹_›),ih K (by exact le_trans (le_add_left _ _) ‹_›)]⟩
 | ret h1 h2=>
  refine xe h2.at λN h2=>?_
  exact⟨N,λK hK=>by simp only[H3,h1,bind_some,h2 K hK]⟩
theorem Sx.for{t it:Expr}{b:List Stmt}{p:Pos}{ds:List D}{cel:List Ad}(hn:∀f q r s u,it≠.Call (.Attribute f q r) [] s u)(h1:Ev d sc it σ x σ₁)(h2:Ai σ₁.cel x=some (ds,cel))(h3:Fr d sc b t ds ⟨σ₁.loc,cel⟩ fl σ₂):Sx d sc (.For t it b [] p) σ fl σ₂:=by
 refine xe h1.at λN h1=>?_
 refine xe h3.at λM h3=>?_
 exact Sx.of (N:=N+M) (.for (λf q l s=>hn f q l [] s) (h1 _ (le_add_right N M)) h2 (h3 _ (le_add_left M N)))
end
section
variable {d:Nat} {sc:Scope} {σ σ₁ σ₂ σ₃:St}
theorem Tv.not(h1:Tv d sc e σ b σ₁):Tv d sc (.UnaryOp .Not e p) σ (!b) σ₁:=by
 refine xe h1.at λN h1=>?_
 exact Tv.of (.not (h1 _ (le_refl N)))
theorem Tv.andF(h1:Tv d sc a σ false σ₁):Tv d sc (.BoolOp .And [a,b] p) σ false σ₁:=by
 refine xe h1.at λN h1=>?_
 exact Tv.of (.and (h1 _ (le_refl N)) (λe=>nomatch e) (λ_=>⟨rfl,rfl⟩))
theorem Tv.andT(h1:Tv d sc a σ true σ₁)(h2:Tv d sc b σ₁ c σ₂):Tv d sc (.BoolOp .And [a,b] p) σ c σ₂:=by
 refine xe h1.at λN h1=>?_
 refine xe h2.at λM h2=>?_
 exact Tv.of (N:=N+M) (.and (h1 _ (le_add_right N M)) (λ_=>(h2 _ (le_add_left M N))) (λe=>nomatch e))
theorem Tv.orT(h1:Tv d sc a σ true σ₁):Tv d sc (.BoolOp .Or [a,b] p) σ true σ₁:=by
 refine xe h1.at λN h1=>?_
 exact Tv.of (.or (h1 _ (le_refl N)) (λe=>nomatch e) (λ_=>⟨rfl,rfl⟩))
theorem Tv.orF(h1:Tv d sc a σ false σ₁)(h2:Tv d sc b σ₁ c σ₂):Tv d sc (.BoolOp .Or [a,b] p) σ c σ₂:=by
 refine xe h1.at λN h1=>?_
 refine xe h2.at λM h2=>?_
 exact Tv.of (N:=N+M) (.or (h1 _ (le_add_right N M)) (λ_=>(h2 _ (le_add_left M N))) (λe=>nomatch e))
theorem Azt(h1:Ev d sc (.Compare a ops bs p) σ (.d (.bool c)) σ₁):Tv d sc (.Compare a ops bs p) σ c σ₁:=by
 refine xe h1.at λN h1=>?_
 exact Tv.of (.cmp (h1 _ (le_refl N)))
theorem Tv.call(h1:Ev d sc (.Call f as ks p) σ (.d (.bool c)) σ₁):Tv d sc (.Call f as ks p) σ c σ₁:=by
 refine xe h1.at λN h1=>?_
 exact Tv.of (.call (h1 _ (le_refl N)))
theorem Wh.done(h1:Tv d sc t σ false σ₁):Wh d sc t b σ .next σ₁:=by
 refine xe h1.at λN h1=>?_
 refine⟨N+1,?_⟩
 show((IQ N d).t sc t σ).bind _=_
 simp only[h1 _ (le_refl N),bind_some]
theorem Wh.turn(h1:Tv d sc t σ true σ₁)(h2:Xs d sc b σ₁ .next σ₂)(h3:Wh d sc t b σ₂ fl σ₃):Wh d sc t b σ fl σ₃:=by
 refine xe h1.at λN h1=>?_
 refine xe h2.at λM h2=>?_
 refine xe h3.at λL h3=>?_
 refine⟨N+M+L+1,?_⟩
 show((IQ (N+M+L) d).t sc t σ).bind _=_
 simp only[h1 _ (by lia:N≤N+M+L),h2 _ (by lia:M≤N+M+L),h3 _ (by lia:L≤N+M+L),bind_some]
theorem Wh.ret(h1:Tv d sc t σ true σ₁)(h2:Xs d sc b σ₁ (.ret v) σ₂):Wh d sc t b σ (.ret v) σ₂:=by
 refine xe h1.at λN h1=>?_
 refine xe h2.at λM h2=>?_
 refine⟨N+M+1,?_⟩
 show((IQ (N+M) d).t sc t σ).bind _=_
 simp only[h1 _ (le_add_right N M),h2 _ (le_add_left M N),bind_some]
theorem Sx.while(h:Wh d sc t b σ fl σ₁):Sx d sc (.While t b [] p) σ fl σ₁:=by
 refine xe h.at λN h=>?_
 exact Sx.of (.whl (h _ (le_refl N)))
theorem Azu(h:Ev d sc e σ (.d .none) σ₁):Sx d sc (.Expr e p) σ .next σ₁:=by
 refine xe h.at λN h=>?_
 exact Sx.of (.exprN (h _ (le_refl N)))
theorem Sx.exprInt(h:Ev d sc e σ (.d (.int i)) σ₁):Sx d sc (.Expr e p) σ .next σ₁:=by
 refine xe h.at λN h=>?_
 exact Sx.of (.exprI (h _ (le_refl N)))
theorem Sx.setall(h1:Ev d sc e σ (.cell j) σ₁)(h2:Ev d sc a σ₁ (.cell i) σ₂)(hj:σ₂.cel[j]? = some c)(hi:σ₂.cel[i]? = some (.m xs))(hf:fits (xs.length+c.items.length)=true):
  Sx d sc (.Assign [.Subscript a (.Slice Option.none Option.none Option.none q) p] e p') σ .next ⟨σ₂.loc,σ₂.cel.set i (.m c.items)⟩:=by
 refine xe h1.at λN h1=>?_
 refine xe h2.at λM h2=>?_
 exact Sx.of (N:=N+M) (.setall (h1 _ (le_add_right N M)) (h2 _ (le_add_left M N)) hj hi hf)
theorem Sx.setitem(hn:∀q,i≠.Slice Option.none Option.none Option.none q)(h1:Ev d sc e σ (.d v) σ₁)(h2:Ev d sc a σ₁ (.cell c) σ₂)(h3:Ev d sc i σ₂ (.d (.int j)) σ₃)(hc:σ₃.cel[c]? = some (.m xs))(hp:Ef j xs.length=some pl):
  Sx d sc (.Assign [.Subscript a i p] e p') σ .next ⟨σ₃.loc,σ₃.cel.set c (.m (xs.set pl v))⟩:=by
 refine xe h1.at λN h1=>?_
 refine xe h2.at λM h2=>?_
 refine xe h3.at λL h3=>?_
 exact Sx.of (N:=N+M+L) (.setitem hn (h1 _ (by lia)) (h2 _ (by lia)) (h3 _ (by lia)) hc hp)
theorem Tn.at(h:Tn d sc elt i t ifs ds σ σ₁):∃N,∀K,N≤K→Cd (IQ K d) sc elt i t ifs ds σ=some σ₁:=by
 induction h with
 | nil=>exact⟨0,λ_ _=>rfl⟩
 | skip hi h1 h2 _ ih=>
  refine xe h2.at λN h2=>?_
  refine xe ih λM ih=>?_
  subst hi
  exact⟨N+M,λK hK=>by simp only[Cd,h1,bind_some,Fm,h2 K (by exact le_trans (le_add_right _ _) ‹_›),ih K (by exact le_trans (le_add_left _ _) ‹_›)]⟩
 | take h1 h2 h3 h4 h5 h6 _ ih=>
  refine xe h3.at λL h3=>?_
  refine xe ih λM ih=>?_
  rcases h2 with⟨rfl,rfl⟩ | ⟨e,rfl,h2⟩
  ·exact⟨L+M,λK hK=>by simp only[Cd,h1,bind_some,Fm,Hs,h3 K (by lia),h4,h5,h6,ih K (by lia)]⟩
  ·refine xe h2.at λN h2=>?_
   exact⟨L+M+N,λK hK=>by simp only[Cd,h1,bind_some,Fm,h2 K (by exact le_trans (le_add_left _ _) ‹_›),Hs,h3 K (by lia),h4,h5,h6,ih K (by lia)]⟩
theorem Ev.comp(hok:(!Ex sc sc'||g.is_async != 0)=false)(h1:Ev d sc g.iter σ x σ₁)(h2:Ai σ₁.cel x=some (ds,cel))
  (h3:Tn d sc' elt cel.length g.target g.ifs ds ⟨Cq sc sc' σ₁.loc,cel++[.m []]⟩ σ₂):Ev d sc (.ListComp elt [g] sc' p) σ (.cell cel.length) ⟨σ₁.loc,σ₂.cel⟩:=by
 refine xe h1.at λN h1=>?_
 refine xe h3.at λM h3=>?_
 exact Ev.of (N:=N+M) (.lc hok (h1 _ (le_add_right N M)) h2 (h3 _ (le_add_left M N)))
end
section
variable {d:Nat} {sc:Scope} {σ σ₁ σ₂ σ₃:St}
theorem Ev.dictS(hk:C4 ks=some l)(hok:Df l vs.length=true)(h1:Af d sc vs σ us σ₁)(h2:toDs σ₁.cel us=some (ds,cel)):
  Ev d sc (.Dict ks vs p) σ (.dstr (l.zip ds)) ⟨σ₁.loc,cel⟩:=by
 refine xe h1.at λN h1=>?_
 exact Ev.of (.dictS hk hok (h1 _ (le_refl N)) h2)
theorem Ev.dictI(hn:C4 ks=Option.none)(hk:D4 ks=some l)(hok:Df l vs.length=true)(h1:Af d sc vs σ us σ₁)(h2:toDs σ₁.cel us=some (ds,cel)):
  Ev d sc (.Dict ks vs p) σ (.dint (l.zip ds)) ⟨σ₁.loc,cel⟩:=by
 refine xe h1.at λN h1=>?_
 exact Ev.of (.dictI hn hk hok (h1 _ (le_refl N)) h2)
theorem Ev.hattr(h1:Ev d sc (.Name z zp) σ (.hdr i) σ₁):Ev d sc (.Attribute (.Name z zp) "_headers" p) σ (.cell i) σ₁:=by
 refine xe h1.at λN h1=>?_
 exact Ev.of (.hattr rfl (h1 _ (le_refl N)))
end
noncomputable def ren(ρ:Nat→Nat):AV→AV
 | .cell i=>.cell (ρ i)
 | .hdr i=>.hdr (ρ i)
 | v=>v
noncomputable def Ix(ρ:Nat→Nat)(loc:List (Option AV)):List (Option AV):=loc.map (Option.map (ren ρ))
structure Dv(ρ:Nat→Nat)(n0 m0:Nat)(fr:Nat→Option Ad)(a b:List Ad):Prop where
 len:n0≤a.length
 blen:b.length=m0+(a.length - n0)
 new:∀j,n0≤j→ρ j=m0+(j - n0)
 old:∀i,i < n0→ρ i < m0
 inj:∀i j,i < n0→j < n0→ρ i=ρ j→i=j
 at_:∀i c,a[i]? = some c→b[ρ i]? = some c
 frame:∀k,k < m0→(∀i,i < n0→ρ i≠k)→b[k]? = fr k
section
variable {ρ:Nat→Nat} {n0 m0:Nat} {fr:Nat→Option Ad} {a b:List Ad}
theorem Dv.last(x:Dv ρ n0 m0 fr a b):ρ a.length=b.length:=by
 rw[x.new _ x.len,x.blen]
theorem Dv.inj'(x:Dv ρ n0 m0 fr a b)(h:ρ i=ρ j):i=j:=by
 by_cases hi:i < n0<;>by_cases hj:j < n0
 ·exact x.inj i j hi hj h
 ·have:=x.old i hi
  rw[h,x.new j (by exact not_lt.mp ‹_›)]at this
  lia
 ·have:=x.old j hj
  rw[←h,x.new i (by lia)]at this
  lia
 ·rw[x.new i (by lia),x.new j (by lia)]at h
  omega
theorem Dv.push(x:Dv ρ n0 m0 fr a b)(c:Ad):Dv ρ n0 m0 fr (a++[c]) (b++[c]):=by
 refine⟨by rw[length_append];have:=x.len;exact le_succ_of_le ‹_›,by simp only[length_append,length_cons,length_nil,x.blen];have:=x.len;lia,x.new,x.old,x.inj,λi e h=>?_,λk hk h=>?_⟩
 ·by_cases hi:i < a.length
  ·rw[List.getElem?_append_left hi]at h
   have:=x.at_ i e h
   rw[List.getElem?_append_left (List.getElem?_eq_some_iff.mp this).1]
   exact this
  ·have hi':i=a.length:=by
    have:=(List.getElem?_eq_some_iff.mp h).1
    simp at this;lia
   subst hi'
   simp at h
   subst h
   rw[x.last]
   simp
 ·have:k < b.length:=by rw[x.blen];exact lt_add_right _ ‹_›
  rw[List.getElem?_append_left this]
  exact x.frame k hk h
theorem Dv.set(x:Dv ρ n0 m0 fr a b)(hi:a[i]? = some c0)(c:Ad):Dv ρ n0 m0 fr (a.set i c) (b.set (ρ i) c):=by
 refine⟨by simpa using x.len,by simpa using x.blen,x.new,x.old,x.inj,λj e h=>?_,λk hk h=>?_⟩
 ·rw[getElem?_set]at h⊢
  split at h
  ·rename_i hij
   subst hij
   split at h
   ·refine Gc h ?_
    have hb:=(List.getElem?_eq_some_iff.mp (x.at_ i c0 hi)).1
    simp[hb]
   ·exact Am h
  ·rename_i hij
   have:ρ i≠ρ j:=λe=>hij (x.inj' e)
   simp[this,x.at_ j e h]
 ·have hik:ρ i≠k:=by
   by_cases hin:i < n0
   ·exact h i hin
   ·rw[x.new i (by lia)];lia
  rw[getElem?_set]
  simp[hik,x.frame k hk h]
theorem Dv.lst(x:Dv ρ n0 m0 fr a b)(h:Aw a v=some l):Aw b (ren ρ v)=some l:=by
 unfold Aw at h
 split at h
 ·exact h
 ·refine Ch h λc h1 z=>?_
  clear h
  subst z
  simp only[ren,Aw,x.at_ _ c h1,map_some]
 ·exact Am h
set_option tactic.hygienic true in
theorem Dv.toD(x:Dv ρ n0 m0 fr a b)(h:toD a v=some (d,a')):∃b',toD b (ren ρ v)=some (d,b')∧Dv ρ n0 m0 fr a' b':=by
 unfold Mine.toD at h
 split at h
 ·refine Bi h ?_;exact⟨b,rfl,x⟩
 ·split at h
  ·rename_i i _ c hc
   refine Bi h ?_
   refine⟨b.set (ρ i) (.f c.items),?_,x.set hc _⟩
   simp only[ren,Mine.toD,x.at_ _ c hc]
  ·exact Am h
 ·exact Am h
set_option tactic.hygienic true in
theorem Dv.toDs:∀{vs:List AV} {a b:List Ad} {ds:List D} {a':List Ad},Dv ρ n0 m0 fr a b→toDs a vs=some (ds,a')→∃b',toDs b (vs.map (ren ρ))=some (ds,b')∧Dv ρ n0 m0 fr a' b'
 | [],a,b,ds,a',x,h=>by refine Bi h ?_;exact⟨b,rfl,x⟩
 | v::vs,a,b,ds,a',x,h=>by
  simp only[Mine.toDs]at h
  split at h
  ·rename_i d a₁ hd
   refine Ch h λr h1 h2=>?_
   clear h
   refine Cp h2 ?_
   refine Aj (x.toD hd) λb₁ e1 x₁=>?_
   refine Aj (Dv.toDs x₁ h1) λb₂ e2 x₂=>?_
   refine⟨b₂,?_,x₂⟩
   simp only[map_cons,Mine.toDs,e1,e2,map_some]
  ·exact Am h
set_option tactic.hygienic true in
theorem Dv.items(x:Dv ρ n0 m0 fr a b)(h:Ai a v=some (ds,a')):∃b',Ai b (ren ρ v)=some (ds,b')∧Dv ρ n0 m0 fr a' b':=by
 unfold Ai at h
 split at h
 ·refine Bi h ?_;exact⟨b,rfl,x⟩
 ·split at h
  ·rename_i i _ c hc
   refine Bi h ?_
   refine⟨b.set (ρ i) (.f c.items),?_,x.set hc _⟩
   simp only[ren,Ai,x.at_ _ c hc]
  ·exact Am h
 ·split at h
  ·rename_i hn
   refine Bi h ?_
   exact⟨b,by simp only[ren,Ai,hn,if_true],x⟩
  ·exact Am h
 ·refine Bi h ?_;exact⟨b,rfl,x⟩
 ·exact Am h
end
structure Ao(ρ:Nat→Nat)(n0 m0:Nat)(fr:Nat→Option Ad)(σ τ:St):Prop where
 loc:τ.loc=Ix ρ σ.loc
 cel:Dv ρ n0 m0 fr σ.cel τ.cel
def Du(R:α→α→Prop)(o p:Option α):Prop:=∀r,o=some r→∃r',p=some r'∧R r r'
section
variable {α β:Type} {R:α→α→Prop} {S:β→β→Prop}
theorem Ax:Du Eq o o:=λr h=>⟨r,h,rfl⟩
theorem Awo(h:∀r,o=some r→p=some r):Du Eq o p:=λr q=>⟨r,h r q,rfl⟩
theorem Du.use(h:Du Eq o p)(q:o=some r):p=some r:=(h r q).elim λ_ e=>e.1.trans (congrArg some e.2.symm)
theorem S6(h:Du S o p)(hf:∀x y,S x y→Du R (f x) (g y)):Du R (o.bind f) (p.bind g):=λr q=>
 (bd q).elim λx q=>(h x q.1).elim λy e=>(hf x y e.2 r q.2).elim λr' k=>⟨r',(congrArg (Option.bind · g) e.1).trans k.1,k.2⟩
theorem Kk{f g:β→Option α}(h:Du Eq o p)(hf:∀x,Du R (f x) (g x)):Du R (o.bind f) (p.bind g):=S6 h λx y e=>e▸hf x
theorem mdR(h:Du S o p)(hf:∀x y,S x y→R (f x) (g y)):Du R (o.map f) (p.map g):=λr q=>
 (md q).elim λx q=>(h x q.1).elim λy e=>⟨g y,congrArg (Option.map g) e.1,q.2▸hf x y e.2⟩
theorem mdE{f:β→α}(h:Du Eq o p):Du Eq (o.map f) (p.map f):=mdR h λ_ _ e=>congrArg f e
theorem Ve{o:Option β}{b b':Option α}{f f':β→Option α}(hb:Du R b b')(hf:∀x,Du R (f x) (f' x)):Du R (o.elim b f) (o.elim b' f'):=
 o.casesOn (motive:=λo=>Du R (o.elim b f) (o.elim b' f')) hb hf
theorem cdR(hb:Du R b b'):Du R (bif c then b else none) (bif c then b' else none):=
 c.casesOn (motive:=λc=>Du R (bif c then b else none) (bif c then b' else none)) (λ_ h=>nomatch h) hb
theorem Wy[d:Decidable c](ha:Du R a a')(hb:Du R b b'):Du R (if c then a else b) (if c then a' else b'):=
 Decidable.casesOn (motive:=λd=>Du R (@ite _ c d a b) (@ite _ c d a' b')) d (λ_=>hb) (λ_=>ha)
theorem noR:Du R none p:=λ_ h=>nomatch h
theorem Ahy(h:R x y):Du R (Gi c x) (Gi c y):=cdR λr e=>⟨y,rfl,Option.some.inj e▸h⟩
end
section
variable {ρ:Nat→Nat} {n0 m0:Nat} {fr:Nat→Option Ad} {σ τ:St} {a b:List Ad} {u v:AV}
theorem F2:asD (ren ρ u)=asD u:=by rcases u<;>rfl
theorem Pp:asG (ren ρ u)=asG u:=by rcases u<;>rfl
theorem Qd:Aa9 (ren ρ u)=Aa9 u:=by rcases u<;>rfl
theorem Qb:Ac6 (ren ρ u)=Ac6 u:=by rcases u<;>rfl
theorem Aat:Ag7 (ren ρ u)=Ag7 u:=by rcases u<;>rfl
theorem Af0:asC (ren ρ u)=(asC u).map ρ:=by rcases u<;>rfl
theorem C5:M2 (ren ρ u)=M2 u:=congrArg (Option.bind · D.num) F2
theorem Cv:S1 (ren ρ u)=S1 u:=congrArg (Option.bind · D.txt) F2
theorem O1:Du (λi j=>j=ρ i) (asC u) (asC (ren ρ u)):=λi h=>⟨ρ i,Af0.trans (congrArg (Option.map ρ) h),rfl⟩
theorem I0:Du (λv w=>w=ren ρ v) (one l) (one (l.map (ren ρ))):=λv h=>⟨ren ρ v,by rw[E8 h];rfl,rfl⟩
theorem Dv.lst'(x:Dv ρ n0 m0 fr a b):Du Eq (Aw a u) (Aw b (ren ρ u)):=Awo λ_=>x.lst
def RS(ρ:Nat→Nat)(X:γ→γ→Prop)(r r':AV×γ):Prop:=r'.1=ren ρ r.1∧X r.2 r'.2
theorem Du.get(h:Du (RS ρ X) o p)(q:o=some (v,s)):∃s',p=some (ren ρ v,s')∧X s s':=
 (h _ q).elim λr e=>⟨r.2,e.1.trans (congrArg some (Prod.ext e.2.1 rfl)),e.2.2⟩
theorem Ph{β γ:Type}{X:γ→γ→Prop}{s s':γ}(x:X s s'){o p:Option β}{g:β→D}(h:Du Eq o p):Du (RS ρ X) (o.map λd=>(AV.d (g d),s)) (p.map λd=>(AV.d (g d),s')):=mdR h λ_ _ e=>⟨e▸rfl,x⟩
theorem Ao.newCell(x:Ao ρ n0 m0 fr σ τ)(ds:List D):(newCell τ ds).1=ren ρ (newCell σ ds).1∧Ao ρ n0 m0 fr (newCell σ ds).2 (newCell τ ds).2:=
 ⟨congrArg AV.cell x.cel.last.symm,x.loc,x.cel.push _⟩
theorem Ao.fresh(x:Ao ρ n0 m0 fr σ τ)(h:Du Eq o p):Du (RS ρ (Ao ρ n0 m0 fr)) (o.map (Mine.newCell σ)) (p.map (Mine.newCell τ)):=mdR h λxs _ e=>e▸x.newCell xs
theorem Ao.binop(x:Ao ρ n0 m0 fr σ τ){op:Operator}{a b v:AV}{σ':St}(h:binop op a b σ=some (v,σ')):∃τ',binop op (ren ρ a) (ren ρ b) τ=some (ren ρ v,τ')∧Ao ρ n0 m0 fr σ' τ':=by
 refine Du.get ?_ h
 delta Mine.binop Aut
 rw[C5,C5,Cv,Cv]
 exact Ve (cdR (Ve (x.fresh (Kk x.cel.lst' λ_=>Kk x.cel.lst' λ_=>Ax)) λ_=>Ph x Ax)) λ_=>Ph x Ax
end
section
variable {ρ:Nat→Nat} {n0 m0:Nat} {fr:Nat→Option Ad} {σ τ:St} {a b:List Ad}
theorem Dv.item(x:Dv ρ n0 m0 fr a b)(h:item u i a=some v):item (ren ρ u) (ren ρ i) b=some (ren ρ v):=by
 refine Ch h λd h1 z=>?_
 clear h
 subst z
 refine congrArg (Option.map AV.d) (Du.use ?_ h1)
 delta Ais Aim
 rw[C5,Cv,Qd,Qb,Cv,F2]
 exact Ve Ax λk=>Ve (Ve (Ve (Kk x.lst' λ_=>Ax) λ_=>Ax) λ_=>Ax) λ_=>Ax
theorem Ao.cut(x:Ao ρ n0 m0 fr σ τ)(h:cut u lo hi σ=some (v,σ')):∃τ',cut (ren ρ u) lo hi τ=some (ren ρ v,τ')∧Ao ρ n0 m0 fr σ' τ':=by
 refine Du.get ?_ h
 delta Mine.cut
 rw[Cv]
 exact Ve (x.fresh (Kk x.cel.lst' λ_=>Ax)) λ_=>Ph x Ax
theorem Ao.setName(x:Ao ρ n0 m0 fr σ τ)(h:σ.setName sc y v=some σ'):∃τ',τ.setName sc y (ren ρ v)=some τ'∧Ao ρ n0 m0 fr σ' τ':=by
 have put:∀i,Ao ρ n0 m0 fr (σ.put i v) (τ.put i (ren ρ v)):=λi=>⟨by
  show τ.loc.set i _=Ix ρ (σ.loc.set i _)
  rw[x.loc]
  delta Ix
  rw[map_set]
  rfl,x.cel⟩
 delta St.setName at h⊢
 split at h
 ·refine Gc h ?_;exact⟨_,rfl,put _⟩
 ·refine Gc h ?_;exact⟨_,rfl,put _⟩
 ·exact Am h
theorem Ao.nameR(x:Ao ρ n0 m0 fr σ τ)(sc:Scope)(y:Str)(d:D):Du (Ao ρ n0 m0 fr) (σ.setName sc y (.d d)) (τ.setName sc y (.d d)):=λ_ h=>x.setName h
theorem Ao.pairR(x:Ao ρ n0 m0 fr σ τ):Du (Ao ρ n0 m0 fr) (S0 sc t v σ) (S0 sc t v τ):=by
 refine Kk Ax λ_=>Kk Ax λ_=>Kk Ax λ_=>Kk Ax λ_=>Kk Ax λ_=>Kk Ax λ_=>S6 (x.nameR sc _ _) λ_ _ x=>x.nameR sc _ _
theorem Ao.bindT(x:Ao ρ n0 m0 fr σ τ)(h:bindT sc t v σ=some σ'):∃τ',bindT sc t v τ=some τ'∧Ao ρ n0 m0 fr σ' τ':=by
 have k:Du (Ao ρ n0 m0 fr) (Mine.bindT sc t v σ) (Mine.bindT sc t v τ):=by
  exact Ve x.pairR λy=>x.nameR sc y v
 exact k σ' h
end
section
variable {ρ:Nat→Nat} {n0 m0:Nat} {fr:Nat→Option Ad} {a b:List Ad} {u v:AV}
theorem Adj:Ahf (ren ρ u)=Ahf u:=by rcases u<;>rfl
theorem Dv.eqR(x:Dv ρ n0 m0 fr a b):Du Eq (eqC u v a) (eqC (ren ρ u) (ren ρ v) b):=by
 delta eqC eqL
 rw[F2,F2]
 have k:Du Eq ((Aw a u).bind λx=>(Aw a v).bind λy=>F8 (K6 4) x y) ((Aw b (ren ρ u)).bind λx=>(Aw b (ren ρ v)).bind λy=>F8 (K6 4) x y):=Kk x.lst' λ_=>Kk x.lst' λ_=>Ax
 exact Ve k λ_=>Ve k λ_=>Ax
theorem So:Yy (ren ρ u) (ren ρ v)=Yy u v:=by
 delta Yy
 rw[Cv,Qd]
theorem Dv.inR(x:Dv ρ n0 m0 fr a b):Du Eq (inC u v a) (inC (ren ρ u) (ren ρ v) b):=by
 delta inC
 rw[C5,Aat,So]
 exact Ve Ax λ_=>Ve (Kk x.lst' λ_=>Ax) λ_=>Ax
theorem Kv:Uk f (ren ρ u) (ren ρ v)=Uk f u v:=by
 delta Uk
 rw[C5,C5]
theorem Vr:isC T (ren ρ u) (ren ρ v)=isC T u v:=by
 delta isC Agz
 rw[F2,Adj,Pp,Pp]
theorem Aan:Ye (ren ρ u) (ren ρ v)=Ye u v:=by
 delta Ye
 rw[Cv,Cv]
theorem Amu:cmp .Lt (ren ρ u) (ren ρ v) b=cmp .Lt u v a:=by
 show(M2 _).elim (Ye _ _) (λx=>(M2 _).map λy=>decide (x < y))=(M2 u).elim (Ye u v) λx=>(M2 v).map λy=>decide (x < y)
 rw[C5,C5,Aan]
theorem Dv.cmp(x:Dv ρ n0 m0 fr a b)(h:cmp op u v a=some c):cmp op (ren ρ u) (ren ρ v) b=some c:=by
 induction op with
 | Eq=>exact x.eqR.use h
 | NotEq=>exact(mdE x.eqR).use h
 | Lt=>exact Amu.trans h
 | LtE=>exact Kv.trans h
 | Gt=>exact Kv.trans h
 | GtE=>exact Kv.trans h
 | Is=>exact Vr.trans h
 | IsNot=>exact(congrArg (Option.map _) Vr).trans h
 | In=>exact x.inR.use h
 | NotIn=>exact(congrArg (Option.map _) So).trans h
end
theorem Lp(ρ:Nat→Nat)(i:Nat):ren ρ (.cell i) = .cell (ρ i):=rfl
theorem Ai1(ρ:Nat→Nat)(x:D):ren ρ (.d x) = .d x:=rfl
section
variable {ρ:Nat→Nat} {n0 m0:Nat} {fr:Nat→Option Ad} {σ τ:St} {a b:List Ad} {u:AV}
theorem Akk:Du (λv w=>w.1=ren ρ v.1∧w.2=ren ρ v.2) (two l) (two (l.map (ren ρ))):=λv h=>⟨(ren ρ v.1,ren ρ v.2),by rw[Kf h];rfl,rfl,rfl⟩
theorem Dv.celM(x:Dv ρ n0 m0 fr a b):Du (λxs ys=>ys=xs∧a[i]? = some (.m xs)) (celM a i) (celM b (ρ i)):=λxs h=>
 ⟨xs,Ko (x.at_ i _ (G1 h)),rfl,G1 h⟩
theorem Ao.setR(x:Ao ρ n0 m0 fr σ τ)(y:Dv ρ n0 m0 fr a b)(h:a[i]? = some c):RS ρ (Ao ρ n0 m0 fr) (AV.d d,⟨σ.loc,a.set i c'⟩) (AV.d d,⟨τ.loc,b.set (ρ i) c'⟩):=⟨rfl,x.loc,y.set h c'⟩
theorem Ao.app(x:Ao ρ n0 m0 fr σ τ):Du (RS ρ (Ao ρ n0 m0 fr)) (G9 i v σ) (G9 (ρ i) (ren ρ v) τ):=
 S6 (S:=λr r'=>r'.1=r.1∧Dv ρ n0 m0 fr r.2 r'.2) (λr h=>(x.cel.toD h).elim λb' e=>⟨(r.1,b'),e.1,rfl,e.2⟩) fun(d,c) (d',c') ⟨e,y⟩=>by
  refine eqr e ?_
  exact S6 y.celM λxs ys e=>e.1▸Ahy (x.setR y e.2)
theorem Ao.ins(x:Ao ρ n0 m0 fr σ τ):Du (RS ρ (Ao ρ n0 m0 fr)) (Hh i k d σ) (Hh (ρ i) k d τ):=
 S6 x.cel.celM λxs ys e=>e.1▸Ahy (x.setR x.cel e.2)
theorem Ao.pop(x:Ao ρ n0 m0 fr σ τ):Du (RS ρ (Ao ρ n0 m0 fr)) (Xp i σ) (Xp (ρ i) τ):=
 S6 x.cel.celM λxs ys e=>e.1▸Kk Ax λ_=>Ahy (x.setR x.cel e.2)
theorem Abt:Du Eq (Ahi u l) (Ahi (ren ρ u) (l.map (ren ρ))):=by
 unfold Ahi
 rw[Qb]
 exact Kk Ax λ_=>S6 I0 λv w e=>by rw[e,C5];exact Ax
theorem Nc:Nb f (ren ρ u) (l.map (ren ρ))=Nb f u l:=by
 unfold Nb
 rw[Cv,isEmpty_map]
theorem S3:Du Eq (Kd u l) (Kd (ren ρ u) (l.map (ren ρ))):=by
 unfold Kd
 rw[Pp]
 exact Kk Ax λ_=>Kk Ax λ_=>S6 I0 λv w e=>by rw[e,Cv];exact Ax
theorem Ao.meth(x:Ao ρ n0 m0 fr σ τ)(h:meth u name args σ=some (v,σ')):∃τ',meth (ren ρ u) name (args.map (ren ρ)) τ=some (ren ρ v,τ')∧Ao ρ n0 m0 fr σ' τ':=by
 refine Du.get ?_ h
 unfold Mine.meth
 rw[Cv,Nc,Nc,isEmpty_map]
 exact Wy (S6 O1 λi j e=>e▸S6 I0 λv w e=>e▸x.app) (Wy (S6 O1 λi j e=>e▸S6 Akk λp q e=>by rw[e.1,e.2,C5,F2];exact Kk Ax λ_=>Kk Ax λ_=>x.ins)
  (Wy (S6 O1 λi j e=>e▸cdR x.pop) (Wy (Ph x Abt) (Wy (Kk Ax λy=>S6 I0 λv w e=>e▸Ph x (Kk x.cel.lst' λ_=>Ax))
   (Wy (Ph x Ax) (Wy (Ph x Ax) (Wy (Ph x S3) noR)))))))
end
section
variable {ρ:Nat→Nat} {n0 m0:Nat} {fr:Nat→Option Ad} {a b:List Ad} {u:AV}
theorem Am3{id:String}(x:Dv ρ n0 m0 fr a b):Du Eq (bD id u a) (bD id (ren ρ u) b):=by
 delta bD Qi
 rw[Cv,C5]
 exact Wy (Kk (Ve (mdE x.lst') λ_=>Ax) λ_=>Ax) (Wy Ax (Wy Ax noR))
theorem Dv.builtin(x:Dv ρ n0 m0 fr a b){id:String}{args:List AV}{a':List Ad}(h:G2 id args a=some (v,a')):∃b',G2 id (args.map (ren ρ)) b=some (ren ρ v,b')∧Dv ρ n0 m0 fr a' b':=by
 refine Du.get (X:=Dv ρ n0 m0 fr) (S6 I0 λu w e=>e▸Wy (mdR (S:=Eq) (Kk x.lst' λ_=>Ax) λxs ys e=>e▸⟨congrArg AV.cell x.last.symm,x.push _⟩) (Ph x (Am3 x))) h
theorem Xm:Du (λv w=>w=ren ρ v) (Qp u) (Qp (ren ρ u)):=by
 delta Qp
 rw[Cv]
 exact Ve (mdR O1 λ_ _ _=>rfl) λ_ v h=>⟨_,rfl,by refine Gc h ?_;rfl⟩
theorem Uy:Du (λv w=>w=ren ρ v) (Lw u) (Lw (ren ρ u)):=by
 delta Lw
 rw[C5]
 exact Kk Ax λ_=>Ahy rfl
theorem Dv.type(x:Dv ρ n0 m0 fr a b){id:String}{args:List AV}{a':List Ad}(h:N3 id args a=some (v,a')):∃b',N3 id (args.map (ren ρ)) b=some (ren ρ v,b')∧Dv ρ n0 m0 fr a' b':=
 Du.get (X:=Dv ρ n0 m0 fr) (S6 I0 λu w e=>e▸mdR (Wy Uy (Wy Xm noR)) λ_ _ e=>⟨e,x⟩) h
end
def Sk(C:B8):Prop:=∀{ρ:Nat→Nat} {n0 m0:Nat} {fr:Nat→Option Ad} {a b:List Ad},Dv ρ n0 m0 fr a b→∀f args v a',C f args a=some (v,a')→∃b',C f (args.map (ren ρ)) b=some (ren ρ v,b')∧Dv ρ n0 m0 fr a' b'
structure IRen(r:I):Prop where
 e:∀{ρ:Nat→Nat} {n0 m0:Nat} {fr:Nat→Option Ad} {σ τ:St},Ao ρ n0 m0 fr σ τ→∀sc e v σ',r.e sc e σ=some (v,σ')→∃τ',r.e sc e τ=some (ren ρ v,τ')∧Ao ρ n0 m0 fr σ' τ'
 es:∀{ρ:Nat→Nat} {n0 m0:Nat} {fr:Nat→Option Ad} {σ τ:St},Ao ρ n0 m0 fr σ τ→∀sc es vs σ',r.es sc es σ=some (vs,σ')→∃τ',r.es sc es τ=some (vs.map (ren ρ),τ')∧Ao ρ n0 m0 fr σ' τ'
 t:∀{ρ:Nat→Nat} {n0 m0:Nat} {fr:Nat→Option Ad} {σ τ:St},Ao ρ n0 m0 fr σ τ→∀sc e b σ',r.t sc e σ=some (b,σ')→∃τ',r.t sc e τ=some (b,τ')∧Ao ρ n0 m0 fr σ' τ'
section
variable {ρ:Nat→Nat} {n0 m0:Nat} {fr:Nat→Option Ad} {σ τ:St} {r:I} {sc:Scope}
theorem Ac9{i:Nat}(h:loc[i]? = some (some v)):(Ix ρ loc)[i]? = some (some (ren ρ v)):=by
 delta Ix
 rw[getElem?_map,h]
 rfl
set_option tactic.hygienic true in
theorem Q4(R:IRen r)(x:Ao ρ n0 m0 fr σ τ)(h:Iw r sc e σ=some (i,σ')):∃τ',Iw r sc e τ=some (i,τ')∧Ao ρ n0 m0 fr σ' τ':=by
 delta Iw at h⊢
 split at h
 ·refine Bi h ?_;exact⟨τ,rfl,x⟩
 ·refine Ay h λw h1 h2=>?_
  clear h
  obtain⟨v,σ₁⟩:=w
  refine Aj (R.e x _ _ _ _ h1) λτ₁ e1 x₁=>?_
  split at h2
  ·rename_i j σ'' heq
   cases heq
   cases h2
   exact⟨τ₁,by simp only[e1,bind_some,Ai1],x₁⟩
  ·exact Am h2
theorem Nu:Cq sc sc' (Ix ρ loc)=Ix ρ (Cq sc sc' loc):=by
 delta Cq Ix
 rw[map_map]
 refine map_congr_left λp _=>?_
 dsimp only[Function.comp]
 split
 ·cases h:ix sc p.1 with
  | none=>rfl
  | some i=>
   dsimp only[bind_some]
   rw[getElem?_map]
   cases loc[i]? with
   | none=>rfl
   | some o=>rcases o<;>rfl
 ·rfl
end
def Uo(G:List (Str×AV)):Prop:=∀y v,G.lookup y=some v→∀ρ,ren ρ v=v
section
variable {ρ:Nat→Nat} {n0 m0:Nat} {fr:Nat→Option Ad} {σ τ:St} {r:I} {sc:Scope} {G:List (Str×AV)} {C:B8}
theorem X9(R:IRen r)(x:Ao ρ n0 m0 fr σ τ)(h:Fm r sc ts σ=some (b,σ')):∃τ',Fm r sc ts τ=some (b,τ')∧Ao ρ n0 m0 fr σ' τ':=by
 unfold Fm at h⊢
 split at h
 ·refine Bi h ?_;exact⟨τ,rfl,x⟩
 ·exact R.t x _ _ _ _ h
 ·exact Am h
set_option tactic.hygienic true in
theorem X1(R:IRen r)(x:Ao ρ n0 m0 fr σ τ)(h:Hs r sc elt i σ=some σ'):∃τ',Hs r sc elt (ρ i) τ=some τ'∧Ao ρ n0 m0 fr σ' τ':=by
 unfold Hs at h⊢
 refine Ay h λw h1 h=>?_
 obtain⟨v,σ₁⟩:=w
 refine Aj (R.e x _ _ _ _ h1) λτ₁ e1 x₁=>?_
 refine Ay h λw h2 h=>?_
 obtain⟨d,cel⟩:=w
 refine Aj (x₁.cel.toD h2) λb' e2 x2=>?_
 split at h
 ·rename_i xs hxs
  split at h
  ·rename_i hf
   refine Gc h ?_
   refine⟨⟨τ₁.loc,b'.set (ρ i) (.m (xs++[d]))⟩,?_,x₁.loc,x2.set hxs _⟩
   simp only[e1,bind_some,e2,x2.at_ _ _ hxs,hf]
  ·exact Am h
 ·exact Am h
theorem Ge(R:IRen r):∀{ds:List D} {σ τ σ':St},Ao ρ n0 m0 fr σ τ→Cd r sc elt i t ifs ds σ=some σ'→∃τ',Cd r sc elt (ρ i) t ifs ds τ=some τ'∧Ao ρ n0 m0 fr σ' τ'
 | [],σ,τ,_,x,h=>by refine Gc h ?_;exact⟨τ,rfl,x⟩
 | d::ds,σ,τ,σ',x,h=>by
  simp only[Cd]at h⊢
  refine Ay h λσ₁ h1 h=>?_
  refine Aj (x.bindT h1) λτ₁ e1 x₁=>?_
  refine Ay h λw h2 h=>?_
  obtain⟨b,σ₂⟩:=w
  refine Aj (X9 R x₁ h2) λτ₂ e2 x₂=>?_
  induction b with
  | true=>
   refine Ay h λσ₃ h3 h=>?_
   refine Aj (X1 R x₂ h3) λτ₃ e3 x₃=>?_
   refine Aj (Ge R x₃ h) λτ₄ e4 x₄=>?_
   exact⟨τ₄,by simp only[e1,bind_some,e2,e3,e4],x₄⟩
  | false=>
   refine Aj (Ge R x₂ h) λτ₄ e4 x₄=>?_
   exact⟨τ₄,by simp only[e1,bind_some,e2,e4],x₄⟩
theorem Ma(R:IRen r):∀{ds:List D} {σ τ σ':St},Ao ρ n0 m0 fr σ τ→Dt r sc elt i t g ds σ=some σ'→∃τ',Dt r sc elt (ρ i) t g ds τ=some τ'∧Ao ρ n0 m0 fr σ' τ'
 | [],σ,τ,_,x,h=>by refine Gc h ?_;exact⟨τ,rfl,x⟩
 | d::ds,σ,τ,σ',x,h=>by
  simp only[Dt]at h⊢
  refine Ay h λσ₁ h1 h=>?_
  refine Aj (x.bindT h1) λτ₁ e1 x₁=>?_
  refine Ay h λw h2 h=>?_
  obtain⟨v,σ₂⟩:=w
  refine Aj (R.e x₁ _ _ _ _ h2) λτ₂ e2 x₂=>?_
  refine Ay h λw h3 h=>?_
  obtain⟨es,cel⟩:=w
  refine Aj (x₂.cel.items h3) λb' e3 x3=>?_
  refine Ay h λσ₃ h4 h=>?_
  refine Aj (Ge R (σ:=⟨σ₂.loc,cel⟩) (τ:=⟨τ₂.loc,b'⟩) (Ao.mk x₂.loc x3) h4) λτ₃ e4 x₄=>?_
  refine Aj (Ma R x₄ h) λτ₄ e5 x₅=>?_
  exact⟨τ₄,by simp only[e1,bind_some,e2,e3,e4,e5],x₅⟩
end
theorem Af6(h:∀i,v≠.hdr i):∀i,ren ρ v≠.hdr i:=by
 intro i hi
 rcases v<;>first | (cases hi;done) | exact h _ rfl
section
variable {ρ:Nat→Nat} {n0 m0:Nat} {fr:Nat→Option Ad} {σ τ:St} {r:I} {sc:Scope} {G:List (Str×AV)} {C:B8}
noncomputable abbrev SR(ρ:Nat→Nat)(n0 m0:Nat)(fr:Nat→Option Ad)(G:List (Str×AV))(C:B8)(r:I)(sc:Scope)(e:Expr)(σ:St)(v:AV)(σ':St):Prop:=∀τ,Ao ρ n0 m0 fr σ τ→∃τ',SE G C r sc e τ (ren ρ v) τ'∧Ao ρ n0 m0 fr σ' τ'
theorem Al5(hG:Uo G)(hC:Sk C)(R:IRen r)(h:SE G C r sc e σ v σ'):SR ρ n0 m0 fr G C r sc e σ v σ':=
 SE.casesOn (motive:=λe σ v σ' _=>SR ρ n0 m0 fr G C r sc e σ v σ') h (λτ x=>⟨τ,.int,x⟩) (λτ x=>⟨τ,.str,x⟩) (λτ x=>⟨τ,.non,x⟩) (λτ x=>⟨τ,.bool,x⟩)
  (λh1 h2 τ x=>⟨τ,by rw[hG _ _ h2];exact .glob h1 h2,x⟩)
  (λh1 h2 h3 h4 h5 τ x=>⟨τ,.name h1 h2 h3 h4 (by rw[x.loc];exact Ac9 h5),x⟩)
  (λτ x=>⟨τ,.neg,x⟩)
  (λh1 h2 h3 τ x=>by
   refine Aj (R.e x _ _ _ _ h1) λτ₁ e1 x₁=>?_
   refine Aj (R.e x₁ _ _ _ _ h2) λτ₂ e2 x₂=>?_
   refine Aj (x₂.binop h3) λτ₃ e3 x₃=>?_
   exact⟨τ₃,.bin e1 e2 e3,x₃⟩)
  (λh1 h2 h3 τ x=>by
   refine Aj (R.e x _ _ _ _ h1) λτ₁ e1 x₁=>?_
   refine Aj (R.e x₁ _ _ _ _ h2) λτ₂ e2 x₂=>?_
   exact⟨τ₂,.cmp e1 e2 (x₂.cel.cmp h3),x₂⟩)
  (λh1 h2 τ x=>by
   refine Aj (R.t x _ _ _ _ h1) λτ₁ e1 x₁=>?_
   refine Aj (R.e x₁ _ _ _ _ h2) λτ₂ e2 x₂=>?_
   exact⟨τ₂,.ite e1 e2,x₂⟩)
  (λh1 h2 h3 h4 τ x=>by
   refine Aj (R.e x _ _ _ _ h1) λτ₁ e1 x₁=>?_
   refine Aj (Q4 R x₁ h2) λτ₂ e2 x₂=>?_
   refine Aj (Q4 R x₂ h3) λτ₃ e3 x₃=>?_
   refine Aj (x₃.cut h4) λτ₄ e4 x₄=>?_
   exact⟨τ₄,.slice e1 e2 e3 e4,x₄⟩)
  (λhs h1 h2 h3 τ x=>by
   refine Aj (R.e x _ _ _ _ h1) λτ₁ e1 x₁=>?_
   refine Aj (R.e x₁ _ _ _ _ h2) λτ₂ e2 x₂=>?_
   exact⟨τ₂,.item hs e1 e2 (x₂.cel.item h3),x₂⟩)
  (λh1 h2 h3 τ x=>by
   refine Aj (R.es x _ _ _ _ h1) λτ₁ e1 x₁=>?_
   refine Aj (x₁.cel.toDs h2) λb' e2 x2=>?_
   refine⟨_,?_,Ao.mk (τ:=⟨τ₁.loc,b'++[.m _]⟩) x₁.loc (x2.push _)⟩
   rw[Lp,x2.last]
   exact .list e1 e2 h3)
  (λh1 h2 h3 τ x=>by
   refine Aj (R.es x _ _ _ _ h1) λτ₁ e1 x₁=>?_
   refine Aj (x₁.cel.toDs h2) λb' e2 x2=>?_
   exact⟨_,.tuple e1 e2 h3,Ao.mk (τ:=⟨τ₁.loc,b'⟩) x₁.loc x2⟩)
  (λh0 h1 h2 h3 τ x=>by
   refine Aj (R.es x _ _ _ _ h2) λτ₁ e1 x₁=>?_
   refine Aj (x₁.cel.toDs h3) λb' e2 x2=>?_
   exact⟨_,.dictS h0 h1 e1 e2,Ao.mk (τ:=⟨τ₁.loc,b'⟩) x₁.loc x2⟩)
  (λh0 h4 h1 h2 h3 τ x=>by
   refine Aj (R.es x _ _ _ _ h2) λτ₁ e1 x₁=>?_
   refine Aj (x₁.cel.toDs h3) λb' e2 x2=>?_
   exact⟨_,.dictI h0 h4 h1 e1 e2,Ao.mk (τ:=⟨τ₁.loc,b'⟩) x₁.loc x2⟩)
  (λhg hx h1 h2 h3 τ x=>by
   refine Aj (R.e x _ _ _ _ h1) λτ₁ e1 x₁=>?_
   refine Aj (R.es x₁ _ _ _ _ h2) λτ₂ e2 x₂=>?_
   refine Aj (x₂.meth h3) λτ₃ e3 x₃=>?_
   exact⟨τ₃,.meth hg (Af6 hx) e1 e2 e3,x₃⟩)
  (λhg h1 h2 hf h3 τ x=>by
   refine Aj (R.e x _ _ _ _ h1) λτ₁ e1 x₁=>?_
   refine Aj (R.es x₁ _ _ _ _ h2) λτ₂ e2 x₂=>?_
   refine Aj (hC x₂.cel _ _ _ _ h3) λb' e4 x4=>?_
   exact⟨_,.hmeth hg e1 e2 hf e4,Ao.mk (τ:=⟨τ₂.loc,b'⟩) x₂.loc x4⟩)
  (λhg h1 h2 h3 τ x=>by
   refine Aj (R.e x _ _ _ _ h1) λτ₁ e1 x₁=>?_
   refine Aj (R.e x₁ _ _ _ _ h2) λτ₂ e2 x₂=>?_
   refine Aj (hC x₂.cel _ _ _ _ h3) λb' e4 x4=>?_
   exact⟨_,.conv hg e1 e2 e4,Ao.mk (τ:=⟨τ₂.loc,b'⟩) x₂.loc x4⟩)
  (λhg h1 τ x=>by
   refine Aj (R.e x _ _ _ _ h1) λτ₁ e1 x₁=>?_
   exact⟨τ₁,.hattr hg e1,x₁⟩)
  (λh1 h2 hf h3 τ x=>by
   refine Aj (R.e x _ _ _ _ h1) λτ₁ e1 x₁=>?_
   refine Aj (R.es x₁ _ _ _ _ h2) λτ₂ e2 x₂=>?_
   refine Aj (hC x₂.cel _ _ _ _ h3) λb' e4 x4=>?_
   exact⟨_,.call e1 e2 hf e4,Ao.mk (τ:=⟨τ₂.loc,b'⟩) x₂.loc x4⟩)
  (λhg h1 h2 h3 τ x=>by
   refine Aj (R.e x _ _ _ _ h1) λτ₁ e1 x₁=>?_
   refine Aj (x₁.cel.items h2) λb' e2 x2=>?_
   refine Aj (Ge R (τ:=⟨Ix ρ (Cq sc _ _),b'++[.m []]⟩) (Ao.mk rfl (x2.push _)) h3) λτ₃ e3 x₃=>?_
   rw[x2.last,←Nu,←x₁.loc]at e3
   refine⟨_,?_,Ao.mk (τ:=⟨τ₁.loc,τ₃.cel⟩) x₁.loc x₃.cel⟩
   rw[Lp,x2.last]
   exact .lc hg e1 e2 e3)
  (λhg hi h1 h2 h3 τ x=>by
   refine Aj (R.e x _ _ _ _ h1) λτ₁ e1 x₁=>?_
   refine Aj (x₁.cel.items h2) λb' e2 x2=>?_
   refine Aj (Ma R (τ:=⟨Ix ρ (Cq sc _ _),b'++[.m []]⟩) (Ao.mk rfl (x2.push _)) h3) λτ₃ e3 x₃=>?_
   rw[x2.last,←Nu,←x₁.loc]at e3
   refine⟨_,?_,Ao.mk (τ:=⟨τ₁.loc,τ₃.cel⟩) x₁.loc x₃.cel⟩
   rw[Lp,x2.last]
   exact .lc2 hg hi e1 e2 e3)
theorem W6(hG:Uo G)(hC:Sk C)(R:IRen r)(x:Ao ρ n0 m0 fr σ τ)(h:Bx G C r sc e σ=some (v,σ')):∃τ',Bx G C r sc e τ=some (ren ρ v,τ')∧Ao ρ n0 m0 fr σ' τ':=
 Exists.imp (λ_ y=>⟨y.1.to,y.2⟩) (Al5 hG hC R (SE.of h) τ x)
end
noncomputable def Fj(ρ:Nat→Nat):Fl→Fl
 | .ret v=>.ret (ren ρ v)
 | x=>x
structure Ami(r:I):Prop extends IRen r where
 s:∀{ρ:Nat→Nat} {n0 m0:Nat} {fr:Nat→Option Ad} {σ τ:St},Ao ρ n0 m0 fr σ τ→∀sc st fl σ',r.s sc st σ=some (fl,σ')→∃τ',r.s sc st τ=some (Fj ρ fl,τ')∧Ao ρ n0 m0 fr σ' τ'
 ss:∀{ρ:Nat→Nat} {n0 m0:Nat} {fr:Nat→Option Ad} {σ τ:St},Ao ρ n0 m0 fr σ τ→∀sc st fl σ',r.ss sc st σ=some (fl,σ')→∃τ',r.ss sc st τ=some (Fj ρ fl,τ')∧Ao ρ n0 m0 fr σ' τ'
 w:∀{ρ:Nat→Nat} {n0 m0:Nat} {fr:Nat→Option Ad} {σ τ:St},Ao ρ n0 m0 fr σ τ→∀sc t b fl σ',r.w sc t b σ=some (fl,σ')→∃τ',r.w sc t b τ=some (Fj ρ fl,τ')∧Ao ρ n0 m0 fr σ' τ'
section
variable {ρ:Nat→Nat} {n0 m0:Nat} {fr:Nat→Option Ad} {σ τ:St} {r:I} {sc:Scope} {G:List (Str×AV)} {C:B8}
theorem Ky
  (hb:∀{σ τ:St},Ao ρ n0 m0 fr σ τ→∀fl σ',body σ=some (fl,σ')→∃τ',body τ=some (Fj ρ fl,τ')∧Ao ρ n0 m0 fr σ' τ'):
  ∀{ds:List D} {σ τ σ':St} {fl:Fl},Ao ρ n0 m0 fr σ τ→H3 body sc t ds σ=some (fl,σ')→∃τ',H3 body sc t ds τ=some (Fj ρ fl,τ')∧Ao ρ n0 m0 fr σ' τ'
 | [],σ,τ,σ',fl,x,h=>by refine Bi h ?_;exact⟨τ,rfl,x⟩
 | d::ds,σ,τ,σ',fl,x,h=>by
  simp only[H3]at h⊢
  refine Ay h λσ₁ h1 h=>?_
  refine Aj (x.bindT h1) λτ₁ e1 x₁=>?_
  refine Ay h λw h2 h=>?_
  obtain⟨f,σ₂⟩:=w
  refine Aj (hb x₁ _ _ h2) λτ₂ e2 x₂=>?_
  induction f with
  | next=>
   refine Aj (Ky hb x₂ h) λτ₄ e4 x₄=>?_
   exact⟨τ₄,by simp only[e1,bind_some,e2,Fj,e4],x₄⟩
  | cont=>
   refine Aj (Ky hb x₂ h) λτ₄ e4 x₄=>?_
   exact⟨τ₄,by simp only[e1,bind_some,e2,Fj,e4],x₄⟩
  | brk=>
   refine Bi h ?_
   exact⟨τ₂,by simp only[e1,bind_some,e2,Fj],x₂⟩
  | ret v=>
   refine Bi h ?_
   exact⟨τ₂,by simp only[e1,bind_some,e2,Fj],x₂⟩
noncomputable abbrev JR(ρ:Nat→Nat)(n0 m0:Nat)(fr:Nat→Option Ad)(r:I)(sc:Scope)(e:Expr)(σ:St)(b:Bool)(σ':St):Prop:=∀τ,Ao ρ n0 m0 fr σ τ→∃τ',SJ r sc e τ b τ'∧Ao ρ n0 m0 fr σ' τ'
theorem Ajp(R:IRen r)(h:SJ r sc e σ b σ'):JR ρ n0 m0 fr r sc e σ b σ':=
 SJ.casesOn (motive:=λe σ b σ' _=>JR ρ n0 m0 fr r sc e σ b σ') h
  (λh1 τ x=>by obtain⟨τ₁,e1,x₁⟩:=R.t x _ _ _ _ h1;exact⟨τ₁,.not e1,x₁⟩)
  (fun{_ _ _ c _ _ _ _} h1 h2 h3 τ x=>by
   refine Aj (R.t x _ _ _ _ h1) λτ₁ e1 x₁=>?_
   induction c with
   | true=>obtain⟨τ₂,e2,x₂⟩:=R.t x₁ _ _ _ _ (h2 rfl);exact⟨τ₂,.and e1 (λ_=>e2) (λe=>nomatch e),x₂⟩
   | false=>obtain⟨rfl,rfl⟩:=h3 rfl;exact⟨τ₁,.and e1 (λe=>nomatch e) (λ_=>⟨rfl,rfl⟩),x₁⟩)
  (fun{_ _ _ c _ _ _ _} h1 h2 h3 τ x=>by
   refine Aj (R.t x _ _ _ _ h1) λτ₁ e1 x₁=>?_
   induction c with
   | false=>obtain⟨τ₂,e2,x₂⟩:=R.t x₁ _ _ _ _ (h2 rfl);exact⟨τ₂,.or e1 (λ_=>e2) (λe=>nomatch e),x₂⟩
   | true=>obtain⟨rfl,rfl⟩:=h3 rfl;exact⟨τ₁,.or e1 (λe=>nomatch e) (λ_=>⟨rfl,rfl⟩),x₁⟩)
  (λh1 τ x=>by obtain⟨τ₁,e1,x₁⟩:=R.e x _ _ _ _ h1;exact⟨τ₁,.cmp e1,x₁⟩)
  (λh1 τ x=>by obtain⟨τ₁,e1,x₁⟩:=R.e x _ _ _ _ h1;exact⟨τ₁,.call e1,x₁⟩)
  (λh1 τ x=>by obtain⟨τ₁,e1,x₁⟩:=R.e x _ _ _ _ h1;exact⟨τ₁,.calln e1,x₁⟩)
  (λh1 τ x=>by obtain⟨τ₁,e1,x₁⟩:=R.e x _ _ _ _ h1;exact⟨τ₁,.name e1,x₁⟩)
theorem Xy(R:IRen r)(x:Ao ρ n0 m0 fr σ τ)(h:Jq r sc e σ=some (b,σ')):∃τ',Jq r sc e τ=some (b,τ')∧Ao ρ n0 m0 fr σ' τ':=
 Exists.imp (λ_ y=>⟨y.1.to,y.2⟩) (Ajp R (SJ.of h) τ x)
noncomputable abbrev KR(ρ:Nat→Nat)(n0 m0:Nat)(fr:Nat→Option Ad)(r:I)(sc:Scope)(st:Stmt)(σ:St)(fl:Fl)(σ':St):Prop:=∀τ,Ao ρ n0 m0 fr σ τ→∃τ',SK r sc st τ (Fj ρ fl) τ'∧Ao ρ n0 m0 fr σ' τ'
theorem Amm(R:Ami r){st:Stmt}{fl:Fl}{σ':St}(h:SK r sc st σ fl σ'):KR ρ n0 m0 fr r sc st σ fl σ':=
 SK.casesOn (motive:=λst σ fl σ' _=>KR ρ n0 m0 fr r sc st σ fl σ') h
  (λτ x=>⟨τ,.pass,x⟩)
  (λh1 τ x=>by obtain⟨τ₁,e1,x₁⟩:=R.e x _ _ _ _ h1;exact⟨τ₁,.ret e1,x₁⟩)
  (λh1 τ x=>by obtain⟨τ₁,e1,x₁⟩:=R.e x _ _ _ _ h1;exact⟨τ₁,.exprN e1,x₁⟩)
  (λh1 τ x=>by obtain⟨τ₁,e1,x₁⟩:=R.e x _ _ _ _ h1;exact⟨τ₁,.exprI e1,x₁⟩)
  (λh1 h2 τ x=>by
   refine Aj (R.e x _ _ _ _ h1) λτ₁ e1 x₁=>?_
   refine Aj (x₁.setName h2) λτ₂ e2 x₂=>?_
   exact⟨τ₂,.assign e1 e2,x₂⟩)
  (λh1 h2 hc hxs hf τ x=>by
   refine Aj (R.e x _ _ _ _ h1) λτ₁ e1 x₁=>?_
   refine Aj (R.e x₁ _ _ _ _ h2) λτ₂ e2 x₂=>?_
   exact⟨_,.setall e1 e2 (x₂.cel.at_ _ _ hc) (x₂.cel.at_ _ _ hxs) hf,Ao.mk (τ:=⟨τ₂.loc,τ₂.cel.set _ _⟩) x₂.loc (x₂.cel.set hxs _)⟩)
  (λhn h1 h2 h3 hxs hp τ x=>by
   refine Aj (R.e x _ _ _ _ h1) λτ₁ e1 x₁=>?_
   refine Aj (R.e x₁ _ _ _ _ h2) λτ₂ e2 x₂=>?_
   refine Aj (R.e x₂ _ _ _ _ h3) λτ₃ e3 x₃=>?_
   exact⟨_,.setitem hn e1 e2 e3 (x₃.cel.at_ _ _ hxs) hp,Ao.mk (τ:=⟨τ₃.loc,τ₃.cel.set _ _⟩) x₃.loc (x₃.cel.set hxs _)⟩)
  (λh1 h2 τ x=>by
   refine Aj (R.t x _ _ _ _ h1) λτ₁ e1 x₁=>?_
   refine Aj (R.ss x₁ _ _ _ _ h2) λτ₂ e2 x₂=>?_
   exact⟨τ₂,.ite e1 e2,x₂⟩)
  (λh1 τ x=>by obtain⟨τ₁,e1,x₁⟩:=R.w x _ _ _ _ _ h1;exact⟨τ₁,.whl e1,x₁⟩)
  (λhg h1 τ x=>by obtain⟨τ₁,e1,x₁⟩:=R.e x _ _ _ _ h1;exact⟨τ₁,.items hg e1,x₁⟩)
  (fun{_ _ b _ _ _ cel _ _ σ₁ _} hn h1 h2 h3 τ x=>by
   refine Aj (R.e x _ _ _ _ h1) λτ₁ e1 x₁=>?_
   refine Aj (x₁.cel.items h2) λb' e2 x2=>?_
   refine Aj (Ky (body:=r.ss sc b) (fun{_ _} y=>R.ss y _ _) (σ:=⟨σ₁.loc,cel⟩) (τ:=⟨τ₁.loc,b'⟩) (Ao.mk x₁.loc x2) h3) λτ₂ e3 x₂=>?_
   exact⟨τ₂,.for hn e1 e2 e3,x₂⟩)
theorem Xb(R:Ami r)(x:Ao ρ n0 m0 fr σ τ){st:Stmt}{fl:Fl}{σ':St}(h:Ec r sc st σ=some (fl,σ')):∃τ',Ec r sc st τ=some (Fj ρ fl,τ')∧Ao ρ n0 m0 fr σ' τ':=
 Exists.imp (λ_ y=>⟨y.1.to,y.2⟩) (Amm R (SK.of h) τ x)
set_option tactic.hygienic true in
theorem Ll(hG:Uo G)(hC:Sk C):∀n,Ami (Ba G C n)
 | 0=>by
  refine⟨⟨?_,?_,?_⟩,?_,?_,?_⟩<;>(intros;rename_i h;exact Am h)
 | n+1=>by
  have R:=Ll hG hC n
  refine⟨⟨λx sc e v σ' h=>W6 hG hC R.toIRen x h,fun{ρ n0 m0 fr σ τ} x sc es vs σ' h=>?_,λx sc e b σ' h=>Xy R.toIRen x h⟩,λx sc st fl σ' h=>Xb R x h,fun{ρ n0 m0 fr σ τ} x sc sts fl σ' h=>?_,fun{ρ n0 m0 fr σ τ} x sc t b fl σ' h=>?_⟩
  ·induction es using List.casesOn with
   | nil=>refine Bi h ?_;exact⟨τ,rfl,x⟩
   | cons e es=>
    refine Ay h λw1 h1 h=>?_
    obtain⟨v,σ₁⟩:=w1
    refine Aj (R.e x _ _ _ _ h1) λτ₁ e1 x₁=>?_
    refine Ch h λw1 h2 h=>?_
    obtain⟨vs,σ₂⟩:=w1
    refine Aj (R.es x₁ _ _ _ _ h2) λτ₂ e2 x₂=>?_
    refine Cp h ?_
    refine⟨τ₂,?_,x₂⟩
    show(((Ba G C n).e sc e τ).bind λx=>((Ba G C n).es sc es x.2).map λy=>(x.1::y.1,y.2))=_
    simp only[e1,bind_some,e2,map_some,map_cons]
  ·induction sts using List.casesOn with
   | nil=>refine Bi h ?_;exact⟨τ,rfl,x⟩
   | cons st rest=>
    refine Ay h λw1 h1 h=>?_
    obtain⟨f,σ₁⟩:=w1
    refine Aj (R.s x _ _ _ _ h1) λτ₁ e1 x₁=>?_
    induction f with
    | next=>
     refine Aj (R.ss x₁ _ _ _ _ h) λτ₂ e2 x₂=>?_
     refine⟨τ₂,?_,x₂⟩
     show(((Ba G C n).s sc st τ).bind λx=>match x with
      | (.next,σ)=>(Ba G C n).ss sc rest σ
      | x=>some x)=_
     simp only[e1,bind_some,Fj,e2]
    | _=>
     refine Bi h ?_
     refine⟨τ₁,?_,x₁⟩
     show(((Ba G C n).s sc st τ).bind λx=>match x with
      | (.next,σ)=>(Ba G C n).ss sc rest σ
      | x=>some x)=_
     simp only[e1,bind_some,Fj]
  ·refine Ay h λw1 h1 h=>?_
   obtain⟨c,σ₁⟩:=w1
   refine Aj (R.t x _ _ _ _ h1) λτ₁ e1 x₁=>?_
   have key:∀τ,(Ba G C (n+1)).w sc t b τ=((Ba G C n).t sc t τ).bind λx=>match x with
    | (true,σ)=>((Ba G C n).ss sc b σ).bind λy=>match y with
     | (.next,σ)=>(Ba G C n).w sc t b σ
     | (.cont,σ)=>(Ba G C n).w sc t b σ
     | (.brk,σ)=>some (.next,σ)
     | (.ret v,σ)=>some (.ret v,σ)
    | (false,σ)=>some (.next,σ):=λ_=>rfl
   induction c with
   | false=>
    refine Bi h ?_
    exact⟨τ₁,by rw[key];simp only[e1,bind_some,Fj],x₁⟩
   | true=>
    refine Ay h λw1 h2 h=>?_
    obtain⟨f,σ₂⟩:=w1
    refine Aj (R.ss x₁ _ _ _ _ h2) λτ₂ e2 x₂=>?_
    induction f with
    | next=>
     refine Aj (R.w x₂ _ _ _ _ _ h) λτ₃ e3 x₃=>?_
     exact⟨τ₃,by rw[key];simp only[e1,bind_some,e2,Fj,e3],x₃⟩
    | cont=>
     refine Aj (R.w x₂ _ _ _ _ _ h) λτ₃ e3 x₃=>?_
     exact⟨τ₃,by rw[key];simp only[e1,bind_some,e2,Fj,e3],x₃⟩
    | brk=>
     refine Bi h ?_
     exact⟨τ₂,by rw[key];simp only[e1,bind_some,e2,Fj],x₂⟩
    | ret v=>
     refine Bi h ?_
     exact⟨τ₂,by rw[key];simp only[e1,bind_some,e2,Fj],x₂⟩
end
theorem Lr(y:Str):∀(ps:List Str) (args:List AV),(ps.zip (args.map (ren ρ))).lookup y=((ps.zip args).lookup y).map (ren ρ)
 | [],_=>by simp
 | p::ps,[]=>by rfl
 | p::ps,a::args=>by
  simp only[map_cons,zip_cons_cons,lookup_cons]
  split
  ·rfl
  ·exact Lr y ps args
def Acf(fn:B6):Prop:=∀y v,fn.dflt.lookup y=some v→∀ρ,ren ρ v=v
section
variable {ρ:Nat→Nat} {n0 m0:Nat} {fr:Nat→Option Ad} {a b:List Ad} {G:List (Str×AV)} {C:B8}
theorem Ij{fn:B6}(hd:Acf fn){args:List AV}{loc:List (Option AV)}(h:bindArgs fn args=some loc):bindArgs fn (args.map (ren ρ))=some (Ix ρ loc):=by
 unfold bindArgs at h⊢
 simp only[length_map]
 split at h
 ·rename_i hc
  rw[if_pos hc]
  refine Gc h ?_
  unfold Ix
  rw[map_map]
  refine congrArg some (map_congr_left λp _=>?_)
  simp only[Function.comp,Lr]
  cases h1:(fn.params.zip args).lookup p.1 with
  | some v=>rfl
  | none=>
   simp only[Option.map_none]
   cases h2:fn.dflt.lookup p.1 with
   | none=>rfl
   | some v=>simp only[map_some,hd _ _ h2]
 ·exact Am h
theorem Nx(hG:Uo G)(hC:Sk C){N:Nat}{fn:B6}(hd:Acf fn)(x:Dv ρ n0 m0 fr a b){args:List AV}{v:AV}{a':List Ad}(h:Fp G N C fn args a=some (v,a')):∃b',Fp G N C fn (args.map (ren ρ)) b=some (ren ρ v,b')∧Dv ρ n0 m0 fr a' b':=by
 unfold Fp at h⊢
 refine Ay h λloc h1 h=>?_
 refine Ay h λw1 h2 h=>?_
 obtain⟨fl,σ₁⟩:=w1
 refine Aj ((Ll hG hC N).ss (σ:=⟨loc,a⟩) (τ:=⟨Ix ρ loc,b⟩) (Ao.mk rfl x) _ _ _ _ h2) λτ₁ e2 x₂=>?_
 induction fl with
 | ret w=>
  refine Bi h ?_
  exact⟨τ₁.cel,by simp only[Ij hd h1,bind_some,e2,Fj],x₂.cel⟩
 | next=>
  refine Bi h ?_
  exact⟨τ₁.cel,by simp only[Ij hd h1,bind_some,e2,Fj,Ai1],x₂.cel⟩
 | _=>exact Am h
theorem Adx(hG:Uo G)(hF:∀k fn,FT.lookup k=some fn→Acf fn)(L:Sk C)(x:Dv ρ n0 m0 fr a b)(h:Cu G N FT hd C f args a=some (v,a')):∃b',Cu G N FT hd C f (args.map (ren ρ)) b=some (ren ρ v,b')∧Dv ρ n0 m0 fr a' b':=by
 refine Vl (P:=λf=>∃b',Cu G N FT hd C f (args.map (ren ρ)) b=some (ren ρ v,b')∧Dv ρ n0 m0 fr a' b') h (λ_ h=>x.builtin h) (λ_ h=>x.type h) (λfn h1 h=>?_) (λh1 h=>?_) λa fn h1 h2 h3 h=>?_
 ·show ∃b',(FT.lookup 198).bind _=_∧_
  rw[h1];exact Nx hG L (hF _ _ h1) x h
 ·rw[h1,map_nil,Adf]
  refine Bi h ⟨b++[.m []],?_,x.push _⟩
  simp only[ren,x.last]
 ·rw[Zw h1 h2 h3];exact Nx hG L (hF _ _ h3) x h
theorem Vg(hG:Uo G)(hF:∀k fn,FT.lookup k=some fn→Acf fn):∀n,Sk (U3 G N FT hd n)
 | 0=>by intro x f args v a' h;exact Am h
 | n+1=>by
  have L:Sk (U3 G N FT hd n):=Vg hG hF n
  intro x f args v a' h
  exact Adx hG hF L x h
end
theorem Db[BEq α][LawfulBEq α]:∀{l:List (α×β)},l.lookup y=some v→(y,v)∈l
 | [],h=>by exact Am h
 | (k,w)::l,h=>by
  rw[lookup_cons]at h
  split at h
  ·rename_i he
   refine Gc h ?_
   rw[eq_of_beq he]
   exact mem_cons_self
  ·exact mem_cons_of_mem _ (Db h)
noncomputable def Am8:AV→Bool
 | .cell _=>false
 | .hdr _=>false
 | _=>true
theorem Qw(h:Am8 v=true)(ρ:Nat→Nat):ren ρ v=v:=by
 rcases v<;>first | rfl | exact Ff h
theorem Ad8:Uo G3:=by
 intro y v h ρ
 have h1:G3.all (λp=>Am8 p.2)=true:=by decide +kernel
 exact Qw (all_eq_true.mp h1 _ (Db h)) ρ
theorem Xd:∀k fn,Ht.lookup k=some fn→Acf fn:=by
 intro k fn h y v hy ρ
 have h1:Ht.all (λp=>p.2.dflt.all λq=>Am8 q.2)=true:=by decide +kernel
 exact Qw (all_eq_true.mp (all_eq_true.mp h1 _ (Db h)) _ (Db hy)) ρ
theorem Zf(N n:Nat):Sk (Gu N n):=Vg Ad8 Xd n
theorem Cl.ren(h:Cl d f args a v a')(x:Dv ρ n0 m0 fr a b):
  ∃b',Cl d f (args.map (ren ρ)) b (ren ρ v) b'∧Dv ρ n0 m0 fr a' b':=by
 refine xe h λN h=>?_
 refine Aj (Zf N d x _ _ _ _ h) λb' e x'=>?_
 exact⟨b',⟨N,e⟩,x'⟩
end
noncomputable section
inductive Ej(adj:Nat→List Nat):Nat→Nat→Prop
 | refl (x:Nat):Ej adj x x
 | head {x y z:Nat}:y∈adj x→Ej adj y z→Ej adj x z
theorem Ej.trans{adj:Nat→List Nat}{x y z:Nat}(h:Ej adj x y)(h':Ej adj y z):Ej adj x z:=by
 induction h with
 | refl=>exact h'
 | head e _ ih=>exact .head e (ih h')
theorem Ej.one{adj:Nat→List Nat}{x y:Nat}(h:y∈adj x):Ej adj x y:=.head h (.refl y)
structure GS where
 pile:List Nat
 bounds:List Nat
 seen:Nat→Int
 groups:List (List Nat)
 leads:Nat→Nat
noncomputable def Ho{α:Type}(f:Nat→α)(k:Nat)(v:α):Nat→α:=λx=>if x=k then v else f x
theorem C1{α:Type}(f:Nat→α)(k:Nat)(v:α):Ho f k v k=v:=by simp[Ho]
theorem Bd{α:Type}(f:Nat→α){k x:Nat}(v:α)(h:x≠k):Ho f k v x=f x:=by simp[Ho,h]
def Pg(s:GS)(x y:Nat):Prop:=(s.seen y = -2∧∀z,(s.leads y).testBit z=true→(s.leads x).testBit z=true)∨∃i j:Nat,s.pile[i]? = some x∧s.pile[j]? = some y∧∀b∈s.bounds,b≤i↔b≤j
structure Mj(n:Nat)(adj:Nat→List Nat)(op:List Nat)(s:GS):Prop where
 seenp:∀(i x:Nat),s.pile[i]? = some x→s.seen x=(i:Int)
 lt:∀x∈s.pile,x < n
 seenr:∀x:Nat,x < n→s.seen x = -1∨s.seen x = -2∨∃i:Nat,s.pile[i]? = some x
 bsort:s.bounds.Pairwise (· < ·)
 blt:∀b∈s.bounds,b < s.pile.length
 b0:s.pile≠[]→0∈s.bounds
 J:∀i j x y:Nat,s.pile[i]? = some x→s.pile[j]? = some y→(∀b∈s.bounds,b≤i→b≤j)→Ej adj x y
 good:∀i x:Nat,s.pile[i]? = some x→x∉op→∀y∈adj x,Pg s x y
 sound:∀x z:Nat,(s.leads x).testBit z=true→Ej adj x z
 d1:∀x:Nat,x < n→s.seen x = -2→∀y∈adj x,s.seen y = -2
 d2:∀x z:Nat,x < n→s.seen x = -2→Ej adj x z→(s.leads x).testBit z=true
 d3:∀x:Nat,(x < n∧s.seen x = -2)↔x∈s.groups.flatten
 nd:s.groups.flatten.Nodup
 d4:∀(g:Nat) (G:List Nat),s.groups[g]? = some G→∀x∈G,∀y,Ej adj x y→∃g' G',g'≤g∧s.groups[g']? = some G'∧y∈G'
 d5:∀(g:Nat) (G:List Nat),s.groups[g]? = some G→∀x∈G,∀y∈G,Ej adj x y
 gne:∀G∈s.groups,G≠[]
structure Ext(s s':GS):Prop where
 pile:s.pile <+: s'.pile
 bounds:∀b∈s'.bounds,b∈s.bounds
 seen:∀x,s.seen x≠ -1→s'.seen x=s.seen x∧s'.leads x=s.leads x
theorem Fz{α:Type}{l m:List α}(h:l <+: m){i:Nat}{x:α}(hi:l[i]? = some x):m[i]? = some x:=by
 refine xe h λr z=>?_
 clear h
 subst z
 rw[List.getElem?_append_left (List.getElem?_eq_some_iff.mp hi).1]
 exact hi
theorem Cm{α:Type}{l:List α}{i:Nat}{x:α}(hi:l[i]? = some x):i < l.length:=(List.getElem?_eq_some_iff.mp hi).1
theorem Ext.good{s s':GS}(e:Ext s s'){x y:Nat}(hx:s.seen x≠ -1)(h:Pg s x y):Pg s' x y:=by
 rcases h with⟨h1,h2⟩ | ⟨i,j,hi,hj,hb⟩
 ·left
  have:=e.seen y (by rw[h1];decide)
  refine⟨by rw[this.1,h1],λz hz=>?_⟩
  rw[this.2]at hz
  rw[(e.seen x hx).2]
  exact h2 z hz
 ·exact .inr ⟨i,j,Fz e.pile hi,Fz e.pile hj,λb hb'=>hb b (e.bounds b hb')⟩
noncomputable def GS.push(s:GS)(k:Nat):GS:=⟨s.pile++[k],s.bounds++[s.pile.length],Ho s.seen k s.pile.length,s.groups,s.leads⟩
structure LI(n:Nat)(adj:Nat→List Nat)(op:List Nat)(s0:GS)(k:Nat)(P:List Nat)(s:GS):Prop where
 inv:Mj n adj (k::op) s
 pile:s0.pile++[k] <+: s.pile
 ble:∀b∈s.bounds,b≤s0.pile.length
 bounds:∀b∈s.bounds,b∈s0.bounds∨b=s0.pile.length
 seen:∀x,s0.seen x≠ -1→s.seen x=s0.seen x∧s.leads x=s0.leads x
 goods:∀y∈P,Pg s k y
section
variable {n:Nat} {adj:Nat→List Nat} {op P:List Nat} {s0 s s1:GS} {k j:Nat}
theorem Mj.pnd(v:Mj n adj op s){i j x:Nat}(hi:s.pile[i]? = some x)(hj:s.pile[j]? = some x):i=j:=by
 have:=v.seenp i x hi
 have:=v.seenp j x hj
 lia
theorem LI.at(v:LI n adj op s0 k P s):s.pile[s0.pile.length]? = some k:=Fz v.pile (by simp)
theorem LI.seenk(v:LI n adj op s0 k P s):s.seen k=(s0.pile.length:Int):=v.inv.seenp _ _ v.at
theorem Ahn(v:Mj n adj op s)(hk:k < n)(hw:s.seen k = -1)(hr:∀x∈s.pile,Ej adj x k)(ho:∀x∈op,x∈s.pile):LI n adj op s k [] (s.push k):=by
 have hnp:∀i,s.pile[i]?≠some k:=λi h=>by have:=v.seenp i k h;lia
 have old:∀{i x},(s.pile++[k])[i]? = some x→s.pile[i]? = some x∨i=s.pile.length∧x=k:=by
  intro i x h
  by_cases hi:i < s.pile.length
  ·rw[List.getElem?_append_left hi]at h
   exact .inl h
  ·have:i=s.pile.length:=by have:=Cm h;simp at this;lia
   subst this
   simp at h
   exact .inr ⟨rfl,h.symm⟩
 have ne:∀{i x},s.pile[i]? = some x→x≠k:=λh e=>hnp _ (e▸h)
 have sd:∀{x},s.seen x = -2→Ho s.seen k (s.pile.length:Int) x = -2:=fun{x} h=>by
  rw[Bd _ _ (λe=>by rw[e,hw]at h;exact nomatch h)];exact h
 have sd':∀{x},Ho s.seen k (s.pile.length:Int) x = -2→s.seen x = -2:=fun{x} h=>by
  by_cases e:x=k
  ·rw[e,C1]at h;lia
  ·rwa [Bd _ _ e]at h
 refine⟨⟨?_,?_,?_,?_,?_,?_,?_,?_,v.sound,?_,?_,?_,v.nd,v.d4,v.d5,v.gne⟩,prefix_rfl,?_,?_,?_,λy h=>by exact nomatch h⟩
 ·intro i x h
  rcases old h with h | ⟨rfl,rfl⟩
  ·show Ho _ _ _ _=_
   rw[Bd _ _ (ne h)];exact v.seenp i x h
  ·exact C1 _ _ _
 ·intro x h
  rcases mem_append.mp h with h | h
  ·exact v.lt x h
  ·simp at h;lia
 ·intro x hx
  by_cases e:x=k
  ·subst e
   exact .inr (.inr ⟨s.pile.length,by simp[GS.push]⟩)
  ·show Ho _ _ _ _=_∨Ho _ _ _ _=_∨_
   rw[Bd _ _ e]
   rcases v.seenr x hx with h | h | ⟨i,h⟩
   ·exact .inl h
   ·exact .inr (.inl h)
   ·exact .inr (.inr ⟨i,Fz (prefix_append _ _) h⟩)
 ·show(s.bounds++[s.pile.length]).Pairwise _
  rw[pairwise_append]
  refine⟨v.bsort,pairwise_singleton _ _,λa ha b hb=>?_⟩
  simp at hb;subst hb;exact v.blt a ha
 ·intro b hb
  show b < (s.pile++[k]).length
  rw[length_append,length_singleton]
  rcases mem_append.mp hb with h | h
  ·have:=v.blt b h;exact le_succ_of_le ‹_›
  ·simp at h;lia
 ·intro _
  show 0∈s.bounds++[s.pile.length]
  by_cases e:s.pile=[]
  ·simp[e]
  ·exact mem_append_left _ (v.b0 e)
 ·intro i j x y hi hj hb
  rcases old hi with a | ⟨rfl,rfl⟩<;>rcases old hj with c | ⟨rfl,rfl⟩
  ·exact v.J i j x y a c λb h=>hb b (mem_append_left _ h)
  ·exact hr x (mem_of_getElem? a)
  ·have:=hb s.pile.length (mem_append_right _ (by exact mem_singleton_self _)) (le_refl _)
   have:=Cm c
   lia
  ·exact .refl _
 ·intro i x hi hx y hy
  rcases old hi with hi | ⟨rfl,rfl⟩
  ·have hxo:x∉op:=λh=>hx (mem_cons_of_mem _ h)
   rcases v.good i x hi hxo y hy with⟨h1,h2⟩ | ⟨i',j',hi',hj',hb⟩
   ·exact .inl ⟨sd h1,h2⟩
   ·refine .inr ⟨i',j',Fz (prefix_append _ _) hi',Fz (prefix_append _ _) hj',λb h=>?_⟩
    rcases mem_append.mp h with h | h
    ·exact hb b h
    ·simp at h;subst h
     have:=Cm hi';have:=Cm hj'
     lia
  ·exact absurd mem_cons_self hx
 ·intro x hx h y hy
  exact sd (v.d1 x hx (sd' h) y hy)
 ·intro x z hx h hz
  exact v.d2 x z hx (sd' h) hz
 ·intro x
  refine⟨λh=>(v.d3 x).mp ⟨h.1,sd' h.2⟩,λh=>?_⟩
  have:=(v.d3 x).mpr h
  exact⟨this.1,sd this.2⟩
 ·intro b hb
  rcases mem_append.mp hb with h | h
  ·have:=v.blt b h;exact le_of_lt ‹_›
  ·simp at h;exact le_of_eq ‹_›
 ·intro b hb
  rcases mem_append.mp hb with h | h
  ·exact .inl h
  ·simp at h;exact .inr h
 ·intro x hx
  exact⟨Bd _ _ (λe=>hx (e▸hw)),rfl⟩
noncomputable def GS.lead(s:GS)(k j:Nat):GS:=⟨s.pile,s.bounds,s.seen,s.groups,Ho s.leads k (s.leads k ||| s.leads j)⟩
theorem Ayx{a b z:Nat}(h:a.testBit z=true):(a ||| b).testBit z=true:=by rw[testBit_or,h,Bool.true_or]
theorem Axa{a b z:Nat}(h:b.testBit z=true):(a ||| b).testBit z=true:=by rw[testBit_or,h,Bool.or_true]
theorem N9(v:Mj n adj op s){p:Nat}(hk:s.pile[p]? = some k){x y:Nat}(h:Pg s x y):Pg (s.lead k j) x y:=by
 rcases h with⟨h1,h2⟩ | h
 ·left
  have hy:y≠k:=λe=>by
   have:=v.seenp p k hk
   rw[e]at h1
   lia
  refine⟨h1,λz hz=>?_⟩
  change Nat.testBit (Ho s.leads k (s.leads k ||| s.leads j) y) z=true at hz
  rw[Bd _ _ hy]at hz
  show Nat.testBit (Ho s.leads k (s.leads k ||| s.leads j) x) z=true
  by_cases e:x=k
  ·subst e
   rw[C1]
   exact Ayx (h2 z hz)
  ·rw[Bd _ _ e];exact h2 z hz
 ·exact .inr h
theorem O6(v:LI n adj op s0 k P s)(hw0:s0.seen k = -1)(hj:j∈adj k)(h:s.seen j = -2∨∃i,s.pile[i]? = some j∧∀b∈s.bounds,b≤i):LI n adj op s0 k (P++[j]) (s.lead k j):=by
 have w:=v.inv
 have nd:∀{x},s.seen x = -2→x≠k:=fun{x} h e=>by have:=v.seenk;rw[e]at h;lia
 refine⟨⟨w.seenp,w.lt,w.seenr,w.bsort,w.blt,w.b0,w.J,λi x hi hx y hy=>N9 w v.at (w.good i x hi hx y hy),?_,w.d1,?_,w.d3,w.nd,w.d4,w.d5,w.gne⟩,v.pile,v.ble,v.bounds,?_,?_⟩
 ·intro x z hz
  change Nat.testBit (Ho s.leads k (s.leads k ||| s.leads j) x) z=true at hz
  by_cases e:x=k
  ·subst e
   rw[C1,testBit_or,Bool.or_eq_true]at hz
   rcases hz with hz | hz
   ·exact w.sound x z hz
   ·exact .head hj (w.sound j z hz)
  ·rw[Bd _ _ e]at hz
   exact w.sound x z hz
 ·intro x z hx h hz
  show Nat.testBit (Ho s.leads k (s.leads k ||| s.leads j) x) z=true
  rw[Bd _ _ (nd h)]
  exact w.d2 x z hx h hz
 ·intro x hx
  have:=v.seen x hx
  exact⟨this.1,by
   show Ho s.leads k (s.leads k ||| s.leads j) x=_
   rw[Bd _ _ (λe=>hx (by rw[e];exact hw0))];exact this.2⟩
 ·intro y hy
  rcases mem_append.mp hy with hy | hy
  ·exact N9 w v.at (v.goods y hy)
  ·simp at hy
   rw[hy]
   rcases h with h | ⟨i,hi,hb⟩
   ·left
    refine⟨h,λz hz=>?_⟩
    change Nat.testBit (Ho s.leads k (s.leads k ||| s.leads j) j) z=true at hz
    rw[Bd _ _ (nd h)]at hz
    show Nat.testBit (Ho s.leads k (s.leads k ||| s.leads j) k) z=true
    rw[C1]
    exact Axa hz
   ·exact .inr ⟨_,i,v.at,hi,λb hb'=>⟨λ_=>hb b hb',λ_=>v.ble b hb'⟩⟩
noncomputable def GS.cutb(s:GS)(c:Nat):GS:=⟨s.pile,s.bounds.filter (· ≤c),s.seen,s.groups,s.leads⟩
theorem Alz(v:LI n adj op s0 k P s)(hj:j∈adj k){c:Nat}(hc:s.pile[c]? = some j):LI n adj op s0 k P (s.cutb c):=by
 have w:=v.inv
 have gd:∀{x y},Pg s x y→Pg (s.cutb c) x y:=by
  intro x y h
  rcases h with h | ⟨i,j,hi,hj,hb⟩
  ·exact .inl h
  ·exact .inr ⟨i,j,hi,hj,λb hb'=>hb b (mem_filter.mp hb').1⟩
 refine⟨⟨w.seenp,w.lt,w.seenr,w.bsort.filter _,λb hb=>w.blt b (mem_filter.mp hb).1,λh=>mem_filter.mpr ⟨w.b0 h,by rfl⟩,?_,λi x hi hx y hy=>gd (w.good i x hi hx y hy),w.sound,w.d1,w.d2,w.d3,w.nd,w.d4,w.d5,w.gne⟩,v.pile,λb hb=>v.ble b (mem_filter.mp hb).1,λb hb=>v.bounds b (mem_filter.mp hb).1,v.seen,λy hy=>gd (v.goods y hy)⟩
 intro i i' x y hi hi' hb
 by_cases h:∀b∈s.bounds,b≤i→b≤i'
 ·exact w.J i i' x y hi hi' h
 ·have:∃b∈s.bounds,b≤i∧¬b≤i':=by
   apply Classical.byContradiction
   intro hn
   apply h
   intro b hb h1
   apply Classical.byContradiction
   intro h2
   exact hn ⟨b,hb,h1,h2⟩
  refine D7 this λb hbm h1 h2=>?_
  clear this
  have hbc:¬b≤c:=λh=>h2 (hb b (mem_filter.mpr ⟨hbm,by simpa using h⟩) h1)
  have r1:Ej adj x k:=w.J i _ x k hi v.at λb hb _=>v.ble b hb
  have r2:Ej adj j y:=w.J c i' j y hc hi' λb hb' h=>hb b (mem_filter.mpr ⟨hb',by simpa using h⟩) (by lia)
  exact r1.trans (.head hj r2)
theorem Af8(v:LI n adj op s0 k P s)(hj:s.seen j = -1)(e:Ext s s1)(w1:Mj n adj (k::op) s1):LI n adj op s0 k P s1:=by
 refine⟨w1,v.pile.trans e.pile,λb hb=>v.ble b (e.bounds b hb),λb hb=>v.bounds b (e.bounds b hb),λx hx=>?_,λy hy=>e.good (by rw[v.seenk];simp) (v.goods y hy)⟩
 have h1:=v.seen x hx
 have h2:=e.seen x (by rw[h1.1];exact hx)
 exact⟨by rw[h2.1,h1.1],by rw[h2.2,h1.2]⟩
theorem Aar(v:LI n adj op s0 k P s)(hj:j∈adj k):∀x∈s.pile,Ej adj x j:=by
 intro x hx
 refine xe (mem_iff_getElem?.mp hx) λi hi=>?_
 exact(v.inv.J i _ x k hi v.at λb hb _=>v.ble b hb).trans (.one hj)
theorem Awq(v:LI n adj op s0 k P s)(ho:∀x∈op,x∈s0.pile):∀x∈k::op,x∈s.pile:=by
 intro x hx
 refine v.pile.subset ?_
 rcases mem_cons.mp hx with rfl | h
 ·simp
 ·exact mem_append_left _ (ho x h)
end
noncomputable def Di(leads:Nat→Nat)(group:List Nat):Nat:=group.foldl (λh j=>h ||| leads j ||| 2 ^ j) 0
theorem Sr(leads:Nat→Nat)(z:Nat):∀(group:List Nat) (a:Nat),(group.foldl (λh j=>h ||| leads j ||| 2 ^ j) a).testBit z=true↔a.testBit z=true∨∃j∈group,(leads j).testBit z=true∨j=z
 | [],a=>by simp
 | x::r,a=>by
  rw[foldl_cons,Sr leads z r]
  simp only[testBit_or,Bool.or_eq_true,testBit_two_pow,decide_eq_true_eq,mem_cons,exists_eq_or_imp]
  constructor
  ·rintro(((h | h) | h) | h)
   ·exact .inl h
   ·exact .inr (.inl (.inl h))
   ·exact .inr (.inl (.inr h))
   ·exact .inr (.inr h)
  ·rintro(h | (h | h) | h)
   ·exact .inl (.inl (.inl h))
   ·exact .inl (.inl (.inr h))
   ·exact .inl (.inr h)
   ·exact .inr h
noncomputable def GS.close(s:GS)(p:Nat):GS:=⟨s.pile.take p,s.bounds.dropLast,λx=>if x∈s.pile.drop p then -2 else s.seen x,s.groups++[s.pile.drop p],λx=>if x∈s.pile.drop p then Di s.leads (s.pile.drop p)else s.leads x⟩
section
variable {n:Nat} {adj:Nat→List Nat} {op P:List Nat} {s0 s s1:GS} {k j:Nat}
theorem Ac0{l:List Nat}(h:l.Pairwise (· < ·)){b:Nat}(hb:b∈l)(hm:∀a∈l,a≤b):l.getLast? = some b:=by
 have hne:l≠[]:=λe=>by rw[e]at hb;exact nomatch hb
 rw[getLast?_eq_some_getLast hne]
 congr 1
 have h1:=hm _ (getLast_mem hne)
 rw[←dropLast_concat_getLast hne]at h hb
 rw[pairwise_append]at h
 rcases mem_append.mp hb with h2 | h2
 ·have:=h.2.2 b h2 _ mem_cons_self
  lia
 ·simp at h2;exact h2.symm
theorem Aho(v:LI n adj op s0 k (adj k) s)(hl:s.bounds.getLast?≠some s0.pile.length):Ext s0 s∧Mj n adj op s∧s.seen k≠ -1∧(∃i,s.pile[i]? = some k∧s0.pile.length≤i):=by
 have w:=v.inv
 have hb:∀b∈s.bounds,b∈s0.bounds:=λb hb=>by
  rcases v.bounds b hb with h | h
  ·exact h
  ·subst h
   exact absurd (Ac0 w.bsort hb v.ble) hl
 refine⟨⟨(prefix_append _ _).trans v.pile,hb,v.seen⟩,⟨w.seenp,w.lt,w.seenr,w.bsort,w.blt,w.b0,w.J,λi x hi hx y hy=>?_,w.sound,w.d1,w.d2,w.d3,w.nd,w.d4,w.d5,w.gne⟩,by rw[v.seenk];simp,_,v.at,le_refl _⟩
 by_cases e:x=k
 ·subst e;exact v.goods y hy
 ·exact w.good i x hi (λh=>(mem_cons.mp h).elim e hx) y hy
theorem Abp{l:List Nat}{p x:Nat}:x∈l.drop p↔∃i,p≤i∧l[i]? = some x:=by
 rw[mem_iff_getElem?]
 constructor
 ·intro w
  refine xe w λi hi=>?_
  clear w
  rw[getElem?_drop]at hi
  exact⟨p+i,by exact le_add_right _ _,hi⟩
 ·intro w
  refine Aj w λi h1 h2=>?_
  clear w
  exact⟨i - p,by rw[getElem?_drop,show p+(i - p)=i by lia];exact h2⟩
theorem Eu{l:List Nat}{p i x:Nat}:(l.take p)[i]? = some x↔i < p∧l[i]? = some x:=by
 rw[getElem?_take]
 split<;>simp_all
 intro;lia
theorem Ms{l:List Nat}(h:∀i j x:Nat,l[i]? = some x→l[j]? = some x→i=j):l.Nodup:=by
 rw[nodup_iff_pairwise_ne,pairwise_iff_getElem]
 intro i j hi hj hij e
 have:=h i j l[i] (List.getElem?_eq_getElem hi) (by rw[e];exact List.getElem?_eq_getElem hj)
 lia
set_option tactic.hygienic true in
theorem Adl(v0:Mj n adj op s0)(hadj:∀x,∀y∈adj x,y < n)(v:LI n adj op s0 k (adj k) s)(ho:∀x∈op,x∈s0.pile)(hl:s.bounds.getLast? = some s0.pile.length):Ext s0 (s.close s0.pile.length)∧Mj n adj op (s.close s0.pile.length)∧(s.close s0.pile.length).seen k = -2:=by
 have w:=v.inv
 let p:=s0.pile.length
 have hp:p∈s.bounds:=mem_of_getLast? hl
 have ing:∀{x},x∈s.pile.drop p↔∃i,p≤i∧s.pile[i]? = some x:=Abp
 have kg:k∈s.pile.drop p:=ing.mpr ⟨p,le_refl _,v.at⟩
 have low:∀{i x:Nat},i < p→s.pile[i]? = some x→x∉s.pile.drop p:=fun{i x} hi hx h=>by
  refine Aj (ing.mp h) λi' h1 h2=>?_
  have:=w.pnd hx h2
  lia
 have ndone:∀{x},s.seen x = -2→x∉s.pile.drop p:=fun{x} h hx=>by
  refine Aj (ing.mp hx) λi h1 h2=>?_
  have:=w.seenp i x h2
  lia
 have dl:∀b∈s.bounds.dropLast,b∈s.bounds∧b < p:=by
  have hne:s.bounds≠[]:=ne_nil_of_mem hp
  have e:s.bounds.getLast hne=p:=by
   rw[getLast?_eq_some_getLast hne]at hl
   exact Option.some.inj hl
  have hs:=w.bsort
  rw[←dropLast_concat_getLast hne,e,pairwise_append]at hs
  intro b hb
  exact⟨dropLast_subset _ hb,hs.2.2 b hb p mem_cons_self⟩
 have dl':∀b∈s.bounds,b=p∨b∈s.bounds.dropLast:=by
  have hne:s.bounds≠[]:=ne_nil_of_mem hp
  have e:s.bounds.getLast hne=p:=by
   rw[getLast?_eq_some_getLast hne]at hl
   exact Option.some.inj hl
  intro b hb
  rw[←dropLast_concat_getLast hne,e]at hb
  rcases mem_append.mp hb with h | h
  ·exact .inr h
  ·simp at h;exact .inl h
 let s':=s.close p
 have sg:∀{x},x∈s.pile.drop p→s'.seen x = -2:=fun{x} h=>if_pos h
 have sn:∀{x},x∉s.pile.drop p→s'.seen x=s.seen x:=fun{x} h=>if_neg h
 have lg:∀{x},x∈s.pile.drop p→s'.leads x=Di s.leads (s.pile.drop p):=fun{x} h=>if_pos h
 have ln:∀{x},x∉s.pile.drop p→s'.leads x=s.leads x:=fun{x} h=>if_neg h
 have sd:∀{x},s.seen x = -2→s'.seen x = -2:=fun{x} h=>by rw[sn (ndone h)];exact h
 have back:∀{x},s'.seen x = -2→x∈s.pile.drop p∨x∉s.pile.drop p∧s.seen x = -2:=fun{x} h=>by
  by_cases hx:x∈s.pile.drop p
  ·exact .inl hx
  ·exact .inr ⟨hx,by rw[←sn hx];exact h⟩
 have gg:∀x∈s.pile.drop p,∀y∈adj x,y∈s.pile.drop p∨(s.seen y = -2∧∀z,(s.leads y).testBit z=true→(s.leads x).testBit z=true):=by
  intro x hx y hy
  refine Aj (ing.mp hx) λi h1 h2=>?_
  have hg:Pg s x y:=by
   by_cases e:x=k
   ·subst e;exact v.goods y hy
   ·refine w.good i x h2 (λh=>?_) y hy
    rcases mem_cons.mp h with h | h
    ·exact e h
    ·refine xe (mem_iff_getElem?.mp (ho x h)) λi' hi'=>?_
     have:=w.pnd h2 (Fz ((prefix_append _ _).trans v.pile) hi')
     have:=Cm hi'
     lia
  rcases hg with h | ⟨i',j',hi',hj',hb⟩
  ·exact .inr h
  ·left
   have:=w.pnd h2 hi'
   exact ing.mpr ⟨j',(hb p hp).mp (by lia),hj'⟩
 have sc:∀x∈s.pile.drop p,∀y∈s.pile.drop p,Ej adj x y:=by
  intro x hx y hy
  refine Aj (ing.mp hx) λi h1 h2=>?_
  refine Aj (ing.mp hy) λj h3 h4=>?_
  exact w.J i j x y h2 h4 λb hb _=>le_trans (v.ble b hb) h3
 have ltg:∀x∈s.pile.drop p,x < n:=λx hx=>w.lt x (drop_subset _ _ hx)
 have cl:∀x y,Ej adj x y→x < n→s'.seen x = -2→y < n∧s'.seen y = -2:=by
  intro x y h
  induction h with
  | refl=>exact λh1 h2=>⟨h1,h2⟩
  | head e _ ih=>
   rename_i x y z _
   intro h1 h2
   refine ih (hadj _ _ e) ?_
   rcases back h2 with h | ⟨_,h⟩
   ·rcases gg _ h _ e with h | h
    ·exact sg h
    ·exact sd h.1
   ·exact sd (w.d1 _ h1 h _ e)
 have hd:∀z,(Di s.leads (s.pile.drop p)).testBit z=true↔∃j∈s.pile.drop p,(s.leads j).testBit z=true∨j=z:=λz=>by
  delta Di
  rw[Sr]
  simp
 have full:∀x z,Ej adj x z→x∈s.pile.drop p→(Di s.leads (s.pile.drop p)).testBit z=true:=by
  intro x z h
  induction h with
  | refl x=>exact λhx=>(hd x).mpr ⟨x,hx,.inr rfl⟩
  | head e h ih=>
   intro hx
   rcases gg _ hx _ e with hy | ⟨h1,h2⟩
   ·exact ih hy
   ·exact(hd _).mpr ⟨_,hx,.inl (h2 _ (w.d2 _ _ (hadj _ _ e) h1 h))⟩
 have d3':∀x:Nat,(x < n∧s'.seen x = -2)↔x∈s'.groups.flatten:=by
  intro x
  show _↔x∈(s.groups++[s.pile.drop p]).flatten
  rw[flatten_append,mem_append,←w.d3]
  simp only[flatten_cons,flatten_nil,append_nil]
  constructor
  ·intro w1
   refine xa w1 λh1 h2=>?_
   clear w1
   rcases back h2 with h | ⟨_,h⟩
   ·exact .inr h
   ·exact .inl ⟨h1,h⟩
  ·rintro(⟨h1,h2⟩ | h)
   ·exact⟨h1,sd h2⟩
   ·exact⟨ltg x h,sg h⟩
 refine⟨⟨?_,?_,?_⟩,⟨?_,?_,?_,?_,?_,?_,?_,?_,?_,?_,?_,d3',?_,?_,?_,?_⟩,sg kg⟩
 ·
  show s0.pile <+: s.pile.take p
  have:=v.pile
  refine xe this λr hr=>?_
  clear this
  rw[←hr,append_assoc,take_left]
  exact prefix_rfl
 ·intro b hb
  have:=dl b hb
  rcases v.bounds b this.1 with h | h
  ·exact h
  ·have:=this.2;lia
 ·intro x hx
  have h1:=v.seen x hx
  have hxg:x∉s.pile.drop p:=λh=>by
   refine Aj (ing.mp h) λi h2 h3=>?_
   have h4:=w.seenp i x h3
   have h5:=w.lt x (mem_of_getElem? h3)
   rcases v0.seenr x h5 with h | h | ⟨i',h⟩
   ·exact hx h
   ·lia
   ·have:=v0.seenp i' x h
    have:i' < p:=Cm h
    lia
  exact⟨by rw[←h1.1];exact sn hxg,by rw[←h1.2];exact ln hxg⟩
 ·intro i x h
  refine xa (Eu.mp h) λh1 h2=>?_
  rw[show(s.close p).seen x=s.seen x from sn (low h1 h2)]
  exact w.seenp i x h2
 ·intro x hx
  exact w.lt x (take_subset _ _ hx)
 ·intro x hx
  by_cases hg:x∈s.pile.drop p
  ·exact .inr (.inl (sg hg))
  ·rw[sn hg]
   rcases w.seenr x hx with h | h | ⟨i,h⟩
   ·exact .inl h
   ·exact .inr (.inl h)
   ·refine .inr (.inr ⟨i,Eu.mpr ⟨?_,h⟩⟩)
    apply Classical.byContradiction
    intro hi
    exact hg (ing.mpr ⟨i,by exact not_lt.mp ‹_›,h⟩)
 ·exact w.bsort.sublist (dropLast_sublist _)
 ·intro b hb
  have:=dl b hb
  have hlen:p < s.pile.length:=Cm v.at
  show b < (s.pile.take p).length
  rw[length_take]
  lia
 ·intro hne
  have h0:0 < p:=by
   apply Classical.byContradiction
   intro h
   have:p=0:=by lia
   apply hne
   show s.pile.take p=[]
   rw[this];rfl
  rcases dl' 0 (w.b0 (λe=>by have:=Cm v.at;rw[e]at this;simp at this))with h | h
  ·lia
  ·exact h
 ·intro i j x y hi hj hb
  refine xa (Eu.mp hi) λh1 h2=>?_
  refine xa (Eu.mp hj) λh3 h4=>?_
  refine w.J i j x y h2 h4 λb hb' hbi=>?_
  rcases dl' b hb' with h | h
  ·lia
  ·exact hb b h hbi
 ·intro i x hi hx y hy
  refine xa (Eu.mp hi) λh1 h2=>?_
  have hxk:x≠k:=λe=>low h1 h2 (e▸kg)
  rcases w.good i x h2 (λh=>(mem_cons.mp h).elim hxk hx) y hy with⟨h3,h4⟩ | ⟨i',j',hi',hj',hb⟩
  ·refine .inl ⟨sd h3,λz hz=>?_⟩
   rw[show(s.close p).leads y=s.leads y from ln (ndone h3)]at hz
   rw[show(s.close p).leads x=s.leads x from ln (low h1 h2)]
   exact h4 z hz
  ·have e:=w.pnd h2 hi'
   subst e
   refine .inr ⟨i,j',Eu.mpr ⟨h1,h2⟩,Eu.mpr ⟨?_,hj'⟩,λb hb'=>hb b (dl b hb').1⟩
   have:=hb p hp
   lia
 ·intro x z hz
  by_cases hg:x∈s.pile.drop p
  ·rw[show(s.close p).leads x=_ from lg hg]at hz
   refine Aj ((hd z).mp hz) λj hj h=>?_
   rcases h with h | rfl
   ·exact(sc x hg j hj).trans (w.sound j z h)
   ·exact sc x hg j hj
  ·rw[show(s.close p).leads x=_ from ln hg]at hz
   exact w.sound x z hz
 ·intro x hx h y hy
  exact(cl x y (.one hy) hx h).2
 ·intro x z hx h hz
  rcases back h with hg | ⟨hg,h⟩
  ·rw[show(s.close p).leads x=_ from lg hg]
   exact full x z hz hg
  ·rw[show(s.close p).leads x=_ from ln hg]
   exact w.d2 x z hx h hz
 ·show(s.groups++[s.pile.drop p]).flatten.Nodup
  rw[flatten_append,nodup_append]
  refine⟨w.nd,?_,?_⟩
  ·simp only[flatten_cons,flatten_nil,append_nil]
   exact(Ms λi j x=>w.pnd).sublist (drop_sublist _ _)
  ·intro a ha b hb e
   simp only[flatten_cons,flatten_nil,append_nil]at hb
   subst e
   exact ndone ((w.d3 a).mpr ha).2 hb
 ·intro g G hG x hx y hr
  have hG':(s.groups++[s.pile.drop p])[g]? = some G:=hG
  by_cases hgl:g < s.groups.length
  ·rw[List.getElem?_append_left hgl]at hG'
   refine Cc (w.d4 g G hG' x hx y hr) λg' G' h1 h2 h3=>?_
   exact⟨g',G',h1,by
    show(s.groups++[s.pile.drop p])[g']? = _
    rw[List.getElem?_append_left (Cm h2)];exact h2,h3⟩
  ·have he:g=s.groups.length:=by have:=Cm hG';simp at this;lia
   subst he
   simp at hG'
   have hxg:x∈s.pile.drop p:=hG'▸hx
   have hy:=(d3' y).mp (cl x y hr (ltg x hxg) (sg hxg))
   refine Aj (mem_flatten.mp hy) λG' hG1 hG2=>?_
   refine xe (mem_iff_getElem?.mp hG1) λg' hg'=>?_
   refine⟨g',G',?_,hg',hG2⟩
   have:=Cm hg'
   have:g' < (s.groups++[s.pile.drop p]).length:=this
   simp at this
   exact le_of_succ_le_succ ‹_›
 ·intro g G hG x hx y hy
  have hG':(s.groups++[s.pile.drop p])[g]? = some G:=hG
  by_cases hgl:g < s.groups.length
  ·rw[List.getElem?_append_left hgl]at hG'
   exact w.d5 g G hG' x hx y hy
  ·have he:g=s.groups.length:=by have:=Cm hG';simp at this;lia
   subst he
   simp at hG'
   exact sc x (hG'▸hx) y (hG'▸hy)
 ·intro G hG
  rcases mem_append.mp hG with h | h
  ·exact w.gne G h
  ·rw[mem_singleton.mp h]
   exact ne_nil_of_mem kg
end
noncomputable def Gs(n:Nat)(s:GS):Nat:=((List.range n).filter λx=>s.seen x == -1).length
theorem N6:∀(l:List Nat),(∀x∈l,p x=true→q x=true)→(l.filter p).length≤(l.filter q).length
 | [],_=>le_refl _
 | x::l,h=>by
  have ih:=N6 l λy hy=>h y (mem_cons_of_mem _ hy)
  have hx:=h x mem_cons_self
  cases hp:p x<;>cases hq:q x<;>simp_all<;>exact le_succ_of_le ‹_›
theorem Ol(h1:p k=false)(h2:q k=true):∀(l:List Nat),(∀x∈l,p x=true→q x=true)→k∈l→(l.filter p).length < (l.filter q).length
 | [],_,hk=>by exact nomatch hk
 | x::l,h,hk=>by
  have hx:=h x mem_cons_self
  have ih0:=N6 l λy hy=>h y (mem_cons_of_mem _ hy)
  by_cases e:x=k
  ·subst e
   simp[filter_cons,h1,h2];exact succ_le_succ ‹_›
  ·have hk':k∈l:=(mem_cons.mp hk).elim (λe'=>absurd e'.symm e) id
   have ih:=Ol h1 h2 l (λy hy=>h y (mem_cons_of_mem _ hy)) hk'
   cases hp:p x<;>cases hq:q x<;>simp_all<;>exact succ_le_succ ‹_›
theorem Xw(h:∀x,s.seen x≠ -1→s'.seen x≠ -1)(hk:k < n)(h1:s.seen k = -1)(h2:s'.seen k≠ -1):Gs n s' < Gs n s:=by
 refine Ol (k:=k) (by simpa using h2) (by simpa using h1) _ (λx _ hx=>?_) (mem_range.mpr hk)
 simp only[beq_iff_eq]at hx⊢
 exact Classical.byContradiction λe=>h x e hx
noncomputable def GS.init:GS:=⟨[],[],λ_=>-1,[],λ_=>0⟩
theorem Acq(n:Nat)(adj:Nat→List Nat):Mj n adj [] .init:=by
 refine⟨?_,?_,λx _=>.inl rfl,List.Pairwise.nil,?_,λh=>absurd rfl h,?_,?_,?_,?_,?_,?_,nodup_nil,?_,?_,?_⟩
 ·intro i x h;simp[GS.init]at h
 ·intro x h;exact nomatch h
 ·intro b h;exact nomatch h
 ·intro i j x y h;simp[GS.init]at h
 ·intro i x h;simp[GS.init]at h
 ·intro x z h;simp[GS.init]at h
 ·intro x _ h;simp[GS.init]at h
 ·intro x z _ h;simp[GS.init]at h
 ·intro x;simp[GS.init]
 ·intro g G h;simp[GS.init]at h
 ·intro g G h;simp[GS.init]at h
 ·intro G h;exact nomatch h
theorem Gq:∀(n:Nat) {l:List Nat},l.Nodup→(∀x∈l,x < n)→l.length≤n
 | 0,l,_,h=>by
  induction l using List.casesOn with
  | nil=>exact le_refl _
  | cons x l=>exact absurd (h x mem_cons_self) (by simp)
 | n+1,l,hn,h=>by
  have h1:(l.erase n).length≤n:=Gq n (hn.erase n) λx hx=>by
   have h2:=(List.Nodup.mem_erase_iff hn).mp hx
   have:=h x h2.2
   have:=h2.1
   lia
  have:l.length - 1≤(l.erase n).length:=by
   rw[length_erase];split<;>simp
  lia
theorem Rn:∀{l:List (List Nat)},(∀G∈l,G≠[])→l.length≤l.flatten.length
 | [],_=>le_refl _
 | G::l,h=>by
  have h1:=Rn λG hG=>h G (mem_cons_of_mem _ hG)
  have h2:=length_pos_iff.mpr (h G mem_cons_self)
  simp only[flatten_cons,length_append,length_cons]
  lia
section
variable {n:Nat} {adj:Nat→List Nat} {op:List Nat} {s:GS}
theorem Mj.plen(v:Mj n adj op s):s.pile.length≤n:=Gq n (Ms λi j x=>v.pnd) v.lt
theorem Mj.blen(v:Mj n adj op s):s.bounds.length≤n:=by
 have h:s.bounds.Nodup:=by
  rw[nodup_iff_pairwise_ne]
  exact v.bsort.imp λh=>ne_of_lt h
 exact le_trans (Gq _ h v.blt) v.plen
theorem Mj.glen(v:Mj n adj op s):s.groups.length≤n:=le_trans (Rn v.gne) (Gq n v.nd λx hx=>((v.d3 x).mpr hx).1)
end
noncomputable def Ag(groups:List (List Nat))(x:Nat):Nat:=groups.findIdx λG=>G.contains x
structure Mo(n:Nat)(adj:Nat→List Nat)(groups:List (List Nat))(leads:Nat→Nat):Prop where
 mem:∀x,x < n↔x∈groups.flatten
 nd:groups.flatten.Nodup
 leads:∀x z,x < n→((leads x).testBit z=true↔Ej adj x z)
 turn:∀x y,x < n→y < n→(Ag groups x=Ag groups y↔Ej adj x y∧Ej adj y x)
 ord:∀x y,x < n→y < n→Ej adj x y→Ag groups y≤Ag groups x
 uniq:∀(g x:Nat) (G:List Nat),groups[g]? = some G→x∈G→Ag groups x=g
theorem Rp:∀{l:List (List Nat)},l.flatten.Nodup→∀{g g' x:Nat} {G G':List Nat},l[g]? = some G→l[g']? = some G'→x∈G→x∈G'→g=g'
 | [],_,g,g',x,G,G',h,_,_,_=>by simp at h
 | A::l,hn,g,g',x,G,G',h,h',hx,hx'=>by
  rw[flatten_cons,nodup_append]at hn
  have key:∀{g:Nat} {G:List Nat},l[g]? = some G→x∈G→x∈l.flatten:=λh hx=>mem_flatten.mpr ⟨_,mem_of_getElem? h,hx⟩
  induction g using Nat.casesOn with
  | zero=>
   induction g' using Nat.casesOn with
   | zero=>rfl
   | succ g'=>
    simp at h h'
    subst h
    exact absurd rfl (hn.2.2 x hx x (key h' hx'))
  | succ g=>
   induction g' using Nat.casesOn with
   | zero=>
    simp at h h'
    subst h'
    exact absurd rfl (hn.2.2 x hx' x (key h hx))
   | succ g'=>
    simp at h h'
    rw[Rp hn.2.1 h h' hx hx']
theorem Aeq(v:Mj n adj [] s)(hp:s.pile=[])(hw:∀x < n,s.seen x≠ -1):Mo n adj s.groups s.leads:=by
 have dn:∀x,x < n→s.seen x = -2:=λx hx=>by
  rcases v.seenr x hx with h | h | ⟨i,h⟩
  ·exact absurd h (hw x hx)
  ·exact h
  ·rw[hp]at h;simp at h
 have at':∀x,x < n→∃G,s.groups[Ag s.groups x]? = some G∧x∈G:=by
  intro x hx
  refine Aj (mem_flatten.mp ((v.d3 x).mp ⟨hx,dn x hx⟩)) λG h1 h2=>?_
  have hlt:Ag s.groups x < s.groups.length:=findIdx_lt_length.mpr ⟨G,h1,by simpa using h2⟩
  refine⟨_,List.getElem?_eq_getElem hlt,?_⟩
  have h3:s.groups[Ag s.groups x].contains x=true:=findIdx_getElem (p:=λG:List Nat=>G.contains x) (xs:=s.groups) (w:=hlt)
  simpa using h3
 have uq:∀(g x:Nat) (G:List Nat),s.groups[g]? = some G→x∈G→Ag s.groups x=g:=by
  intro g x G h hx
  have hxn:x < n:=((v.d3 x).mpr (mem_flatten.mpr ⟨G,mem_of_getElem? h,hx⟩)).1
  refine Aj (at' x hxn) λG' h1 h2=>?_
  exact Rp v.nd h1 h h2 hx
 have ord:∀x y,x < n→y < n→Ej adj x y→Ag s.groups y≤Ag s.groups x:=by
  intro x y hx hy h
  refine Aj (at' x hx) λG h1 h2=>?_
  refine Cc (v.d4 _ G h1 x h2 y h) λg' G' h3 h4 h5=>?_
  rw[uq g' y G' h4 h5]
  exact h3
 refine⟨λx=>⟨λh=>(v.d3 x).mp ⟨h,dn x h⟩,λh=>((v.d3 x).mpr h).1⟩,v.nd,λx z hx=>⟨v.sound x z,v.d2 x z hx (dn x hx)⟩,λx y hx hy=>⟨λh=>?_,λh=>?_⟩,ord,uq⟩
 ·refine Aj (at' x hx) λG h1 h2=>?_
  refine Aj (at' y hy) λG' h3 h4=>?_
  rw[←h,h1]at h3
  obtain rfl:=Option.some.inj h3
  exact⟨v.d5 _ G h1 x h2 y h4,v.d5 _ G h1 y h4 x h2⟩
 ·exact le_antisymm (ord y x hy hx h.2) (ord x y hx hy h.1)
noncomputable def A7(h n x:Nat):Nat:=(x+h) % n
structure T0(h n:Nat)(adj:Nat→List Nat)(T:Nat→Nat→Bool)(V:Nat→Prop):Prop where
 two:n=2*h
 lt:∀x y,y∈adj x→x < n∧y < n
 skew:∀x y,y∈adj x→A7 h n x∈adj (A7 h n y)
 neg:∀v x,V v→x < n→T v (A7 h n x) = !T v x
 all:∀A:Nat→Bool,(∀x < n,A (A7 h n x) = !A x)→∃v,V v∧∀x < n,T v x=A x
def Kp(adj:Nat→List Nat)(T:Nat→Nat→Bool)(v:Nat):Prop:=∀x y,y∈adj x→T v x=true→T v y=true
section
variable {h n:Nat} {adj:Nat→List Nat} {T:Nat→Nat→Bool} {V:Nat→Prop} {gs:List (List Nat)} {leads:Nat→Nat}
theorem T0.op_lt(S:T0 h n adj T V)(hx:x < n):A7 h n x < n:=mod_lt _ (by omega)
theorem T0.op_op(S:T0 h n adj T V)(hx:x < n):A7 h n (A7 h n x)=x:=by
 unfold A7
 have:=S.two
 by_cases c:x+h < n
 ·rw[mod_eq_of_lt c,show x+h+h=x+n by omega,add_mod_right,mod_eq_of_lt hx]
 ·rw[show x+h=(x+h - n)+n by omega,add_mod_right,mod_eq_of_lt (by omega:x+h - n < n),mod_eq_of_lt (by omega)]
  omega
theorem T0.rev(S:T0 h n adj T V)(r:Ej adj x y):Ej adj (A7 h n y) (A7 h n x):=by
 induction r with
 | refl=>exact .refl _
 | head e _ ih=>exact ih.trans (.one (S.skew _ _ e))
theorem T0.rev'(S:T0 h n adj T V)(hx:x < n)(hy:y < n)(r:Ej adj (A7 h n x) (A7 h n y)):Ej adj y x:=by
 have:=S.rev r
 rwa [S.op_op hx,S.op_op hy]at this
theorem Kp.run(k:Kp adj T v)(r:Ej adj x y):T v x=true→T v y=true:=by
 induction r with
 | refl=>exact id
 | head e _ ih=>exact λh=>ih (k _ _ e h)
def J4(h n:Nat)(gs:List (List Nat))(x:Nat):Prop:=Ag gs x=Ag gs (A7 h n x)
noncomputable def first(h n:Nat)(gs:List (List Nat))(x:Nat):Bool:=decide (Ag gs x < Ag gs (A7 h n x))
theorem Iz(S:T0 h n adj T V)(hn:∀x < n,¬J4 h n gs x):∀x < n,first h n gs (A7 h n x) = !first h n gs x:=by
 intro x hx
 have:=hn x hx
 unfold first J4 at *
 rw[S.op_op hx]
 by_cases c:Ag gs x < Ag gs (A7 h n x)
 ·simp only[c,decide_true,Bool.not_true,decide_eq_false_iff_not];omega
 ·simp only[c,decide_false,Bool.not_false,decide_eq_true_eq];omega
theorem H8(S:T0 h n adj T V)(D:Mo n adj gs leads)(hn:∀x < n,¬J4 h n gs x)(e:y∈adj x)(hx:first h n gs x=true):first h n gs y=true:=by
 refine xa (S.lt _ _ e) λh1 h2=>?_
 have t:=hn y h2
 unfold first J4 at *
 simp only[decide_eq_true_eq]at hx⊢
 have a:=D.ord x y h1 h2 (.one e)
 have b:=D.ord _ _ (S.op_lt h2) (S.op_lt h1) (S.rev (.one e))
 omega
theorem Xh(S:T0 h n adj T V)(D:Mo n adj gs leads):(∃v,V v∧Kp adj T v)↔∀x < n,¬J4 h n gs x:=by
 constructor
 ·intro w x hx t
  refine Aj w λv hv k=>?_
  clear w
  refine xa ((D.turn x _ hx (S.op_lt hx)).mp t) λa b=>?_
  have n1:=S.neg v x hv hx
  cases hT:T v x with
  | true=>have:=k.run a hT;simp[n1,hT]at this
  | false=>have:=k.run b (by simp[n1,hT]);rw[hT]at this;exact Ff this
 ·intro hn
  refine Aj (S.all (first h n gs) (Iz S hn)) λv hv hT=>?_
  refine⟨v,hv,λx y e hx=>?_⟩
  refine xa (S.lt _ _ e) λh1 h2=>?_
  rw[hT y h2]
  rw[hT x h1]at hx
  exact H8 S D hn e hx
theorem Td(S:T0 h n adj T V)(D:Mo n adj gs leads)(hn:∀x < n,¬J4 h n gs x)(hT:∀x < n,T v x=first h n gs x):Kp adj T v:=by
 intro x y e hx
 refine xa (S.lt _ _ e) λh1 h2=>?_
 rw[hT y h2]
 rw[hT x h1]at hx
 exact H8 S D hn e hx
set_option tactic.hygienic true in
theorem Te(S:T0 h n adj T V)(D:Mo n adj gs leads)(hk:k < n)(ht:J4 h n gs k)(hv:V v)
  (hkeep:∀x y,y∈adj x→J4 h n gs x→Ag gs x=Ag gs y→T v x=true→T v y=true):False:=by
 refine xa ((D.turn k _ hk (S.op_lt hk)).mp ht) λa b=>?_
 have main:∀x z,Ej adj x z→x < n→Ej adj k x→Ej adj z k→T v x=true→T v z=true:=by
  intro x z r
  induction r with
  | refl=>exact λ_ _ _ h=>h
  | head e r ih=>
   rename_i x y z
   intro hx h1 h2 hT
   have hy:=(S.lt _ _ e).2
   have hky:Ej adj k y:=h1.trans (.one e)
   have hyk:Ej adj y k:=r.trans h2
   have hxk:Ej adj x k:=.head e hyk
   refine ih hy hky h2 (hkeep x y e ?_ ?_ hT)
   ·refine(D.turn x _ hx (S.op_lt hx)).mpr ⟨hxk.trans (a.trans (S.rev hxk)),?_⟩
    exact(S.rev h1).trans (b.trans h1)
   ·exact(D.turn x y hx hy).mpr ⟨.one e,hyk.trans h1⟩
 have n1:=S.neg v k hv hk
 cases hT:T v k with
 | true=>have:=main k _ a hk (.refl _) b hT;simp[n1,hT]at this
 | false=>have:=main _ k b (S.op_lt hk) a (.refl _) (by simp[n1,hT]);rw[hT]at this;exact Ff this
theorem Q7(S:T0 h n adj T V)(D:Mo n adj gs leads)(hn:∀x < n,¬J4 h n gs x)(hk:k < n)(hj:j < n):
  (∀v,V v→Kp adj T v→T v k=true→T v j=true)↔Ej adj k j∨Ej adj k (A7 h n k)∨Ej adj (A7 h n j) j:=by
 constructor
 ·intro hf
  apply Classical.byContradiction
  intro hno
  have h1:¬Ej adj k j:=λe=>hno (.inl e)
  have h2:¬Ej adj k (A7 h n k):=λe=>hno (.inr (.inl e))
  have h3:¬Ej adj (A7 h n j) j:=λe=>hno (.inr (.inr e))
  let B:Nat→Prop:=λx=>Ej adj k x∨Ej adj (A7 h n j) x
  have cons:∀x < n,B x→¬B (A7 h n x):=by
   intro x hx b1 b2
   rcases b1 with b1 | b1<;>rcases b2 with b2 | b2
   ·have:=S.rev b2
    rw[S.op_op hx]at this
    exact h2 (b1.trans this)
   ·exact h1 (b1.trans (S.rev' hj hx b2))
   ·have:=S.rev b1
    rw[S.op_op hj]at this
    exact h1 (b2.trans this)
   ·exact h3 (b1.trans (S.rev' hj hx b2))
  have clo:∀x y,y∈adj x→B x→B y:=by
   intro x y e b
   rcases b with b | b
   ·exact .inl (b.trans (.one e))
   ·exact .inr (b.trans (.one e))
  have dec:∀x,Decidable (B x):=λx=>Classical.propDecidable _
  let A:Nat→Bool:=λx=>if B x then true else if B (A7 h n x)then false else first h n gs x
  have hA:∀x < n,A (A7 h n x) = !A x:=by
   intro x hx
   show(if B (A7 h n x)then true else if B (A7 h n (A7 h n x))then false else first h n gs (A7 h n x)) = !(if B x then true else if B (A7 h n x)then false else first h n gs x)
   rw[S.op_op hx]
   by_cases c:B x
   ·simp[c,cons x hx c]
   ·by_cases c':B (A7 h n x)
    ·simp[c,c']
    ·simp only[c,c',if_false]
     exact Iz S hn x hx
  refine Aj (S.all A hA) λv hv hT=>?_
  have kp:Kp adj T v:=by
   intro x y e hx
   refine xa (S.lt _ _ e) λh4 h5=>?_
   rw[hT x h4]at hx
   rw[hT y h5]
   show(if B y then true else if B (A7 h n y)then false else first h n gs y)=true
   by_cases c:B x
   ·simp[clo x y e c]
   ·have hx':(if B x then true else if B (A7 h n x)then false else first h n gs x)=true:=hx
    have c':¬B (A7 h n x):=λc'=>by simp[c,c']at hx'
    simp only[c,c',if_false]at hx'
    have c2:¬B (A7 h n y):=λb=>c' (clo _ _ (S.skew _ _ e) b)
    by_cases c3:B y
    ·simp[c3]
    ·simp only[c3,c2,if_false]
     exact H8 S D hn e hx'
  have hk1:T v k=true:=by
   rw[hT k hk]
   show(if B k then true else _)=true
   have:B k:=.inl (.refl k)
   simp[this]
  have hj1:=hf v hv kp hk1
  have hb:B (A7 h n j):=.inr (.refl _)
  have hb':¬B j:=λb=>cons j hj b hb
  rw[hT j hj]at hj1
  have:(if B j then true else if B (A7 h n j)then false else first h n gs j)=true:=hj1
  simp[hb,hb']at this
 ·rintro(r | r | r) v hv kp hT
  ·exact kp.run r hT
  ·have:=kp.run r hT
   rw[S.neg v k hv hk,hT]at this
   exact Ff this
  ·cases hj':T v j with
   | true=>rfl
   | false=>
    have:=kp.run r (by rw[S.neg v j hv hj,hj'];rfl)
    rw[hj']at this
    exact Ff this
end
end
noncomputable section
open PySem PyProof.Rows
noncomputable def Ul(sc:Scope)(loc:List (Option AV))(y:Str):Option AV:=match sc.names.lookup y with
 | some .globalImplicit=>G3.lookup y
 | some .globalExplicit=>none
 | some _=>(ix sc y).bind λi=>(loc[i]?).join
 | none=>none
section
variable {d:Nat} {sc:Scope} {σ σ₁ σ₂ σ₃:St}
theorem Azf(h:Ul sc σ.loc y=some v):Ev d sc (.Name y p) σ v σ:=by
 cases hk:sc.names.lookup y with
 | none=>rw[Ul,hk]at h;exact Am h
 | some k=>
  rw[Ul,hk]at h
  have hn:(k = .globalImplicit∧G3.lookup y=some v)∨(k≠.globalImplicit∧k≠.globalExplicit∧((ix sc y).bind λi=>(σ.loc[i]?).join)=some v):=by
   induction k with
   | globalImplicit=>exact .inl ⟨rfl,h⟩
   | globalExplicit=>exact Am h
   | _=>exact .inr ⟨by nofun,by nofun,h⟩
  rcases hn with⟨rfl,h⟩ | ⟨h1,h2,h⟩
  ·exact Ev.glob hk h
  ·refine Ay h λi hi h=>?_
   exact Ev.name i hk h1 h2 hi (join_eq_some_iff.mp h)
theorem Cl.ret{a:Addr}{fn:B6}{args:List AV}{loc:List (Option AV)}{cel cel':List Ad}{v:AV}{loc':List (Option AV)}(h1:(a==297||a==198)=false)(hl:Ht.lookup a=some fn)(hb:bindArgs fn args=some loc)
  (h:Xs d fn.sc fn.body ⟨loc,cel⟩ (.ret v) ⟨loc',cel'⟩):Cl (d+1) (.ref a) args cel v cel':=by
 simp only[Bool.or_eq_false_iff,beq_eq_false_iff_ne,ne_eq]at h1
 exact Cl.def (by simp[h1.1]) (by simp[h1.2]) hl hb h (.inr ⟨v,rfl⟩)
theorem Cl.next{a:Addr}{fn:B6}{args:List AV}{loc:List (Option AV)}{cel cel':List Ad}{loc':List (Option AV)}(h1:(a==297||a==198)=false)(hl:Ht.lookup a=some fn)(hb:bindArgs fn args=some loc)
  (h:Xs d fn.sc fn.body ⟨loc,cel⟩ .next ⟨loc',cel'⟩):Cl (d+1) (.ref a) args cel (.d .none) cel':=by
 simp only[Bool.or_eq_false_iff,beq_eq_false_iff_ne,ne_eq]at h1
 exact Cl.def (by simp[h1.1]) (by simp[h1.2]) hl hb h (.inl rfl)
end
theorem Cl.len(h:Aw cel a=some l)(hf:fits l.length=true):Cl (d+1) (.builtin "len") [a] cel (.d (.int l.length)) cel:=by
 refine⟨1,?_⟩
 show((Qi a cel).bind λn=>Gi (fits n) (D.int n)).map (λx=>(AV.d x,cel))=_
 rw[Agd h]
 show(Gi (fits l.length) _).map _=_
 rw[hf];rfl
theorem Cl.lenS(hf:fits x.length=true):Cl (d+1) (.builtin "len") [.d (.str x)] cel (.d (.int x.length)) cel:=by
 refine⟨1,?_⟩
 show(Gi (fits x.length) (D.int x.length)).map (λx=>(AV.d x,cel))=_
 rw[hf];rfl
theorem At(h:n≤100000):fits n=true:=ble_eq.mpr (by exact le_add_left_of_le ‹_›)
noncomputable def Ac(l:List Nat):List D:=l.map fun(i:Nat)=>D.int (i:Int)
theorem Ah(l:List Nat):(Ac l).length=l.length:=length_map _
theorem S4(l:List Nat)(i:Nat):(Ac l)[i]? = l[i]?.map fun(i:Nat)=>D.int (i:Int):=getElem?_map
theorem E0{i n:Nat}(h:i < n)(h2:n≤1000):Ef (i:Int) n=some i:=by
 delta Ef
 rw[if_pos ⟨by exact Int.natCast_nonneg _,by exact Int.ofNat_lt.mpr ‹_›,by lia⟩]
 simp
theorem Ka{i:Nat}(h:Aw cel a=some l)(hi:l[i]? = some x)(hl:l.length≤1000):item a (.d (.int (i:Int))) cel=some (.d x):=by
 rw[Ae2 h]
 show((Ef _ _).bind λp=>l[p]?).map _=_
 rw[E0 (List.getElem?_eq_some_iff.mp hi).1 hl]
 exact congrArg (Option.map AV.d) hi
theorem Y7{i x:Nat}(h:Aw cel a=some (Ac l))(hi:l[i]? = some x)(hl:l.length≤1000):item a (.d (.int (i:Int))) cel=some (.d (.int (x:Int))):=
 Ka h ((S4 l i).trans (congrArg _ hi)) ((Ah l).symm▸hl)
theorem F9(a b:Nat)(cel:List Ad):cmp .Lt (.d (.int (a:Int))) (.d (.int (b:Int))) cel=some (decide (a < b)):=congrArg some (decide_eq_decide.mpr Int.ofNat_lt)
noncomputable def Lu(a x lo hi:AV)(mid:Option AV):List (Option AV):=[some a,some x,some lo,some hi,some (.d .none),mid,none,none]
theorem Y1{l:List Nat}(hs:l.Pairwise (· < ·))(c:Nat):∀{i x:Nat},l[i]? = some x→(c < x↔(l.filter (· ≤c)).length≤i):=by
 induction l with
 | nil=>intro i x h;simp at h
 | cons y l ih=>
  intro i x h
  rw[pairwise_cons]at hs
  by_cases hy:y≤c
  ·rw[filter_cons_of_pos (by simpa using hy),length_cons]
   induction i using Nat.casesOn with
   | zero=>simp at h;subst h;lia
   | succ i=>simp at h;rw[ih hs.2 h];simp
  ·have h0:l.filter (· ≤c)=[]:=by
    rw[filter_eq_nil_iff]
    intro z hz
    have:=hs.1 z hz
    lia
   rw[filter_cons_of_neg (by simpa using hy),h0]
   have:y≤x:=by
    induction i using Nat.casesOn with
    | zero=>simp at h;exact le_of_eq ‹_›
    | succ i=>simp at h;exact le_of_lt (hs.1 x (mem_of_getElem? h))
   simp;lia
theorem Ha(lo hi:Nat)(σ:St):binop .FloorDiv (.d (.int ((lo:Int)+(hi:Int)))) (.d (.int 2)) σ=some (.d (.int (((lo+hi) / 2:Nat):Int)),σ):=by
 show some (AV.d (D.int (((lo:Int)+(hi:Int)).fdiv 2)),σ)=_
 rw[←Int.natCast_add,Int.fdiv_eq_ediv_of_nonneg _ (by decide)]
 rfl
noncomputable def sub(l:List Stmt)(i:Nat):Stmt:=l[i]?.getD (.Pass default)
noncomputable def Hw:Stmt→List Stmt
 | .If _ a _ _=>a
 | _=>[]
noncomputable def Atk:Stmt→List Stmt
 | .If _ _ b _=>b
 | _=>[]
noncomputable def Bh:Stmt→List Stmt
 | .While _ b _ _=>b
 | .For _ _ b _ _=>b
 | _=>[]
noncomputable def B1:Stmt→Expr
 | .While t _ _ _=>t
 | .For t _ _ _ _=>t
 | _=>.Constant .none 0 default
theorem Abz{l:List Nat}(hs:l.Pairwise (· < ·))(hl:l.length≤1000)(c:Nat){cel:List Ad}(ha:Aw cel a=some (Ac l)):∀(m lo hi:Nat) (mid:Option AV),hi - lo≤m→lo≤(l.filter (· ≤c)).length→(l.filter (· ≤c)).length≤hi→hi≤l.length→
  ∃mid',Wh 1 (Ke (st 2)) (B1 (sub (Hw (sub (Ft (st 2)) 2)) 0)) (Bh (sub (Hw (sub (Ft (st 2)) 2)) 0)) ⟨Lu a (.d (.int (c:Int))) (.d (.int (lo:Int))) (.d (.int (hi:Int))) mid,cel⟩ .next
   ⟨Lu a (.d (.int (c:Int))) (.d (.int ((l.filter (· ≤c)).length:Nat))) (.d (.int ((l.filter (· ≤c)).length:Nat))) mid',cel⟩:=by
 intro m
 induction m with
 | zero=>
  intro lo hi mid h1 h2 h3 h4
  have e1:lo=(l.filter (· ≤c)).length:=by lia
  have e2:hi=(l.filter (· ≤c)).length:=by lia
  rw[←e1]at e2
  rw[←e1,e2]
  refine⟨mid,?_⟩
  apply Wh.done
  apply Azt
  have:cmp .Lt (.d (.int (lo:Int))) (.d (.int (lo:Int))) cel=some false:=(F9 lo lo cel).trans (congrArg some (decide_eq_false (lt_irrefl _)))
  exact Azr (Azf rfl) (Azf rfl) this
 | succ m ih=>
  intro lo hi mid h1 h2 h3 h4
  by_cases hlt:lo < hi
  ·have hx:(lo+hi) / 2 < l.length:=by lia
   have ht:cmp .Lt (.d (.int (lo:Int))) (.d (.int (hi:Int))) cel=some true:=(F9 lo hi cel).trans (congrArg some (decide_eq_true hlt))
   have hi':=Y7 ha (List.getElem?_eq_getElem hx) hl
   have key:=Y1 hs c (List.getElem?_eq_getElem hx)
   by_cases hc:c < l[(lo+hi) / 2]
   ·refine xe (ih lo ((lo+hi) / 2) (some (.d (.int (((lo+hi) / 2:Nat):Int)))) (by lia) h2 (key.mp hc) (by exact le_of_lt ‹_›)) λmid' w=>?_
    refine⟨mid',Wh.turn (Azt (Azr (Azf rfl) (Azf rfl) ht)) (Azg (Azi (Azn (Azn (Azf rfl) (Azf rfl) rfl) Azo (Ha lo hi _)) rfl) (Azg (Azq (c:=true) (Azt (Azr (Azf rfl) (Azs (by exact Dc rfl) (Azf rfl) (Azf rfl) hi') ?_)) (Azg (Azi (Azf rfl) rfl) Azm)) Azm)) w⟩
    exact(F9 _ _ cel).trans (congrArg some (decide_eq_true hc))
   ·refine xe (ih ((lo+hi) / 2+1) hi (some (.d (.int (((lo+hi) / 2:Nat):Int)))) (by omega) (by lia) h3 h4) λmid' w=>?_
    refine⟨mid',Wh.turn (Azt (Azr (Azf rfl) (Azf rfl) ht)) (Azg (Azi (Azn (Azn (Azf rfl) (Azf rfl) rfl) Azo (Ha lo hi _)) rfl) (Azg (Azq (c:=false) (Azt (Azr (Azf rfl) (Azs (by exact Dc rfl) (Azf rfl) (Azf rfl) hi') ?_)) (Azg (Azi (Azn (Azf rfl) Azo rfl) rfl) Azm)) Azm)) w⟩
    exact(F9 _ _ cel).trans (congrArg some (decide_eq_false hc))
  ·have e1:lo=(l.filter (· ≤c)).length:=by lia
   have e2:hi=(l.filter (· ≤c)).length:=by lia
   rw[←e1]at e2
   rw[←e1,e2]
   refine⟨mid,?_⟩
   apply Wh.done
   apply Azt
   have:cmp .Lt (.d (.int (lo:Int))) (.d (.int (lo:Int))) cel=some false:=(F9 lo lo cel).trans (congrArg some (decide_eq_false (lt_irrefl _)))
   exact Azr (Azf rfl) (Azf rfl) this
theorem J5(hs:l.Pairwise (· < ·))(hl:l.length≤1000)(c:Nat)(ha:Aw cel a=some (Ac l)):Cl 2 (.ref 47) [a,.d (.int (c:Int))] cel (.d (.int ((l.filter (· ≤c)).length:Nat))) cel:=by
 refine xe (Abz hs hl c ha l.length 0 l.length none (by exact sub_le _ _) (by exact zero_le _) (length_filter_le _ _) (le_refl _)) λmid w=>?_
 apply Cl.ret (loc:=Lu a (.d (.int c)) (.d (.int 0)) (.d .none) none) rfl rfl rfl
 apply Azg (Azq (c:=false) (Azt (Azr (Azf rfl) Azo rfl)) Azm)
 apply Azg (Azq (c:=true) (Azt (Azr (Azf rfl) Ev.none rfl)) (Azg (Azi (Azp rfl (Azf rfl) (Azh (Azf rfl) Azj) (Cl.len ha (At (by rw[Ah];exact le_add_left_of_le ‹_›)))) rfl) Azm))
 rw[Ah]
 exact Azg (Azq (c:=true) (Azt (Azr (Azf rfl) Ev.none rfl)) (Azg (Sx.while w) Azm)) (Xs.ret (Sx.ret (Azf rfl)))
noncomputable def Aza:List Str:=[⟨#[115]⟩,⟨#[115,115]⟩,⟨#[115,116]⟩,⟨#[116]⟩,⟨#[126,115]⟩,⟨#[126,115,115]⟩,⟨#[126,115,116]⟩,⟨#[126,116]⟩]
noncomputable def lit(i:Nat):Str:=Aza[i]?.getD ⟨#[]⟩
noncomputable def Cr(o:Nat):Int:=([18,51,27,28,32,29,30,19]:List Int)[o]?.getD 0
noncomputable def Ak(r:Nat×Nat×Nat):D:=.lst [.str (lit r.1),.int (Cr r.2.1),.str (lit r.2.2)]
noncomputable def Da(i:Nat):Nat:=(i+4) % 8
noncomputable def Dw(o:Nat):List (Bool×Bool):=match o with
 | 0=>[(false,false)]
 | 1=>[(true,false)]
 | 5=>[(true,false)]
 | 6=>[(false,true)]
 | 2=>[(true,false),(false,true)]
 | 3=>[(true,true),(false,false)]
 | 4=>[(true,true),(false,false)]
 | _=>[(false,false),(false,true),(true,false)]
noncomputable def As(r:Nat×Nat×Nat):List (Nat×Nat):=(Dw r.2.1).flatMap λpq=>
 let one:=if pq.1 then r.1 else Da r.1
 let two:=if pq.2 then r.2.2 else Da r.2.2
 [(one,Da two),(two,Da one)]
noncomputable def Bc(p:Nat×Nat):D:=.tup [.str (lit p.1),.str (lit p.2)]
theorem I8{i:Nat}(h:i < 8):i=0∨i=1∨i=2∨i=3∨i=4∨i=5∨i=6∨i=7:=by revert i;decide
theorem Pi(h:i < 8)(cel:List Ad):Cl 1 (.ref 308) [.d (.str (lit i))] cel (.d (.str (lit (Da i)))) cel:=by
 rcases I8 h with rfl | rfl | rfl | rfl | rfl | rfl | rfl | rfl<;>exact⟨30,by rfl⟩
theorem Pa(i:Nat):Da i < 8:=mod_lt _ (by decide)
theorem Bq(h:σ.cel[k]? = some (.m xs))(hf:xs.length≤1000):meth (.cell k) "append" [.d x] σ=some (.d .none,⟨σ.loc,σ.cel.set k (.m (xs++[x]))⟩):=by
 exact Sq (σ:=σ) rfl h (At (by lia))
noncomputable abbrev A8(i:Nat):AV:=.d (.str (lit i))
noncomputable def S5(b:Bool):AV:=.d (.int (if b then 1 else 0))
noncomputable def I9(rule:AV)(Dw steps p q one two:Option AV):List (Option AV):=[some rule,Dw,steps,p,q,one,two,none]
noncomputable def Eb(i j:Nat)(pq:Bool×Bool):List (Nat×Nat):=[(if pq.1 then i else Da i,Da (if pq.2 then j else Da j)),(if pq.2 then j else Da j,Da (if pq.1 then i else Da i))]
theorem Tk(hi:i < 8)(hj:j < 8)(o:D)(pb qb:Bool)(hk:cel[k]? = some (.m xs))(hl:xs.length≤100)(br:Option AV)(one two:Option AV):
  Xs 2 (Ke (st 80)) (Bh (sub (Ft (st 80)) 2)) ⟨I9 (.d (.lst [.str (lit i),o,.str (lit j)])) br (some (.cell k)) (some (S5 pb)) (some (S5 qb)) one two,cel⟩ .next
   ⟨I9 (.d (.lst [.str (lit i),o,.str (lit j)])) br (some (.cell k)) (some (S5 pb)) (some (S5 qb)) (some (A8 (if pb then i else Da i))) (some (A8 (if qb then j else Da j))),cel.set k (.m (xs++(Eb i j (pb,qb)).map Bc))⟩:=by
 let ru:AV:=.d (.lst [.str (lit i),o,.str (lit j)])
 have a8:(if pb then i else Da i) < 8:=by rcases pb<;>first | exact hi | exact Pa i
 have b8:(if qb then j else Da j) < 8:=by rcases qb<;>first | exact hj | exact Pa j
 apply Azg (σ₁:=⟨I9 ru br (some (.cell k)) (some (S5 pb)) (some (S5 qb)) (some (A8 i)) two,cel⟩) (Azi (Azs (by exact Dc rfl) (Azf rfl) Azo rfl) rfl)
 apply Azg (σ₁:=⟨I9 ru br (some (.cell k)) (some (S5 pb)) (some (S5 qb)) (some (A8 (if pb then i else Da i))) two,cel⟩)
 ·rcases pb
  ·exact Azq (c:=true) (Azt (Azr (Azf rfl) Azo rfl)) (Azg (Azi (Azp rfl (Azf rfl) (Azh (Azf rfl) Azj) ((Pi hi cel).deeper (by decide))) rfl) Azm)
  ·exact Azq (c:=false) (Azt (Azr (Azf rfl) Azo rfl)) Azm
 apply Azg (σ₁:=⟨I9 ru br (some (.cell k)) (some (S5 pb)) (some (S5 qb)) (some (A8 (if pb then i else Da i))) (some (A8 j)),cel⟩) (Azi (Azs (by exact Dc rfl) (Azf rfl) Azo rfl) rfl)
 apply Azg (σ₁:=⟨I9 ru br (some (.cell k)) (some (S5 pb)) (some (S5 qb)) (some (A8 (if pb then i else Da i))) (some (A8 (if qb then j else Da j))),cel⟩)
 ·rcases qb
  ·exact Azq (c:=true) (Azt (Azr (Azf rfl) Azo rfl)) (Azg (Azi (Azp rfl (Azf rfl) (Azh (Azf rfl) Azj) ((Pi hj cel).deeper (by decide))) rfl) Azm)
  ·exact Azq (c:=false) (Azt (Azr (Azf rfl) Azo rfl)) Azm
 have hk2:(cel.set k (.m (xs++[Bc ((if pb then i else Da i),Da (if qb then j else Da j))])))[k]? = some (.m (xs++[Bc ((if pb then i else Da i),Da (if qb then j else Da j))])):=by
  rw[getElem?_set_self ((List.getElem?_eq_some_iff.mp hk).1)]
 apply Azg (Azu (Ev.meth rfl (by exact Mq rfl) (Azf rfl) (Azh (Ev.tuple (Azh (Azf rfl) (Azh (Azp rfl (Azf rfl) (Azh (Azf rfl) Azj) ((Pi b8 cel).deeper (by decide))) Azj)) rfl rfl) Azj)
  (Bq (x:=Bc ((if pb then i else Da i),Da (if qb then j else Da j))) hk (by exact le_trans ‹_› (by decide)))))
 apply Azg (Azu (Ev.meth rfl (by exact Mq rfl) (Azf rfl) (Azh (Ev.tuple (Azh (Azf rfl) (Azh (Azp rfl (Azf rfl) (Azh (Azf rfl) Azj) ((Pi a8 _).deeper (by decide))) Azj)) rfl rfl) Azj)
  (Bq (x:=Bc ((if qb then j else Da j),Da (if pb then i else Da i))) hk2 (by simp;exact le_trans ‹_› (by decide)))))
 have e:(cel.set k (.m (xs++[Bc ((if pb then i else Da i),Da (if qb then j else Da j))]))).set k (.m (xs++[Bc ((if pb then i else Da i),Da (if qb then j else Da j))]++[Bc ((if qb then j else Da j),Da (if pb then i else Da i))]))=cel.set k (.m (xs++(Eb i j (pb,qb)).map Bc)):=by
  rw[set_set];simp[Eb]
 dsimp only
 rw[e]
 exact Azm
noncomputable def Avw(b:Bool):D:=.int (if b then 1 else 0)
noncomputable def Abi(p:Bool×Bool):D:=.tup [Avw p.1,Avw p.2]
theorem Agj{cel:List Ad}{k:Nat}(h:k < cel.length):(cel.set k c)[k]? = some c:=by
 rw[getElem?_set_self h]
theorem U4{cel:List Ad}{k:Nat}(h:cel[k]? = some c):cel.set k c=cel:=by
 refine List.ext_getElem? λj=>?_
 rw[getElem?_set]
 split
 ·rename_i e
  subst e
  rw[h]
  simp[(List.getElem?_eq_some_iff.mp h).1]
 ·rfl
theorem M9{i j:Nat}(hi:i < 8)(hj:j < 8)(o:D){k:Nat}(br:Option AV):∀(pqs:List (Bool×Bool)) {cel:List Ad} {xs:List D} (_:cel[k]? = some (.m xs)) (_:xs.length+2*pqs.length≤100) (p q one two:Option AV),
  ∃p' q' one' two',Fr 2 (Ke (st 80)) (Bh (sub (Ft (st 80)) 2)) (B1 (sub (Ft (st 80)) 2)) (pqs.map Abi) ⟨I9 (.d (.lst [.str (lit i),o,.str (lit j)])) br (some (.cell k)) p q one two,cel⟩ .next
   ⟨I9 (.d (.lst [.str (lit i),o,.str (lit j)])) br (some (.cell k)) p' q' one' two',cel.set k (.m (xs++(pqs.flatMap (Eb i j)).map Bc))⟩
 | [],cel,xs,hk,hl,p,q,one,two=>by
  refine⟨p,q,one,two,?_⟩
  have e:cel.set k (.m (xs++(([]:List (Bool×Bool)).flatMap (Eb i j)).map Bc))=cel:=by
   simp only[flatMap_nil,map_nil,append_nil]
   exact U4 hk
  rw[e]
  exact .nil
 | (pb,qb)::pqs,cel,xs,hk,hl,p,q,one,two=>by
  simp only[length_cons]at hl
  have hklt:=(List.getElem?_eq_some_iff.mp hk).1
  refine Jp (M9 hi hj o br pqs (Agj (c:=.m (xs++(Eb i j (pb,qb)).map Bc)) hklt) (by simp[Eb];lia) (some (S5 pb)) (some (S5 qb)) (some (A8 (if pb then i else Da i))) (some (A8 (if qb then j else Da j)))) λp' q' one' two' h=>?_
  refine⟨p',q',one',two',?_⟩
  rw[set_set,append_assoc,←map_append,←flatMap_cons]at h
  exact .next (σ₁:=⟨I9 (.d (.lst [.str (lit i),o,.str (lit j)])) br (some (.cell k)) (some (S5 pb)) (some (S5 qb)) one two,cel⟩) rfl (Tk hi hj o pb qb hk (by exact le_trans (le_add_right _ _) ‹_›) br one two) h
theorem Lc(r:Nat×Nat×Nat):As r=(Dw r.2.1).flatMap (Eb r.1 r.2.2):=rfl
noncomputable def Aei:List (Int×D):=([0,1,5,6,2,3,4,7]:List Nat).map λo=>(Cr o,.lst ((Dw o).map Abi))
noncomputable def Ey:List Ad:=([0,1,5,6,2,3,4,7]:List Nat).map λo=>.f ((Dw o).map Abi)
theorem Ts(ru:AV):Sx 2 (Ke (st 80)) (sub (Ft (st 80)) 0) ⟨I9 ru none none none none none none,[]⟩ .next ⟨I9 ru (some (.dint Aei)) none none none none none,Ey⟩:=⟨60,by kernel_rfl⟩
theorem Y9(hi:i < 8)(ho:o < 8)(hj:j < 8):Cl 3 (.ref 364) [.d (Ak (i,o,j))] [] (.cell 8) (Ey++[.m ((As (i,o,j)).map Bc)]):=by
 have hb:Aei.lookup (Cr o)=some (.lst ((Dw o).map Abi)):=by
  rcases I8 ho with rfl | rfl | rfl | rfl | rfl | rfl | rfl | rfl<;>rfl
 have hbl:(Dw o).length≤3:=by
  rcases I8 ho with rfl | rfl | rfl | rfl | rfl | rfl | rfl | rfl<;>decide
 refine Jp (M9 hi hj (.int (Cr o)) (k:=8) (some (.dint Aei)) (Dw o) (cel:=Ey++[.m []]) (xs:=[]) rfl (by simp;lia) none none none none) λp q one two h=>?_
 have e8:(Ey++[Ad.m []]).set 8 (.m ([]++((Dw o).flatMap (Eb i j)).map Bc))=Ey++[Ad.m ((As (i,o,j)).map Bc)]:=rfl
 rw[e8]at h
 have hit:item (.dint Aei) (.d (.int (Cr o))) (Ey++[Ad.m []])=some (.d (.lst ((Dw o).map Abi))):=by
  exact congrArg (Option.map AV.d) hb
 apply Cl.ret (loc:=I9 (.d (Ak (i,o,j))) none none none none none none) rfl rfl rfl
 apply Azg (Ts _)
 apply Azg (σ₁:=⟨I9 (.d (Ak (i,o,j))) (some (.dint Aei)) (some (.cell 8)) none none none none,Ey++[.m []]⟩) (Azi (Ev.list Azj rfl rfl) rfl)
 exact Azg (Sx.for (by exact nfa rfl) (Azs (by exact Dc rfl) (Azf rfl) (Azs (by exact Dc rfl) (Azf rfl) Azo rfl) hit) rfl h) (Xs.ret (Sx.ret (Azf rfl)))
theorem Cl.lift(h:Cl d f args a v a')(b:List Ad)(ps:Nat→Nat)
  (hlt:∀i,i < a.length→b[ps i]? = a[i]?) (hinj:∀i j,i < a.length→j < a.length→ps i=ps j→i=j):
  ∃b',Cl d f (args.map (Mine.ren λi=>if i < a.length then ps i else b.length+(i - a.length))) b (Mine.ren (λi=>if i < a.length then ps i else b.length+(i - a.length)) v) b'∧
   a.length≤a'.length∧b'.length=b.length+(a'.length - a.length)∧(∀i,i < a.length→b'[ps i]? = a'[i]?)∧(∀i,a.length≤i→b'[b.length+(i - a.length)]? = a'[i]?)∧(∀k,k < b.length→(∀i,i < a.length→ps i≠k)→b'[k]? = b[k]?):=by
 have hp:∀i,i < a.length→ps i < b.length:=λi hi=>by
  have h1:=hlt i hi
  rw[List.getElem?_eq_getElem hi]at h1
  exact(List.getElem?_eq_some_iff.mp h1).1
 have em:Dv (λi=>if i < a.length then ps i else b.length+(i - a.length)) a.length b.length (λk=>b[k]?) a b:=by
  refine⟨le_refl _,by simp,λj hj=>?_,λi hi=>?_,λi j hi hj e=>?_,λi c hi=>?_,λk hk h=>rfl⟩
  ·simp only[not_lt.mpr hj,if_false]
  ·simp only[hi,if_true];exact hp i hi
  ·simp only[hi,hj,if_true]at e;exact hinj i j hi hj e
  ·have hi':=(List.getElem?_eq_some_iff.mp hi).1
   simp only[hi',if_true,hlt i hi'];exact hi
 refine Aj (h.ren em) λb' e x=>?_
 refine⟨b',e,x.len,x.blen,λi hi=>?_,λi hi=>?_,λk hk hn=>x.frame k hk λi hi=>?_⟩
 ·have hi':i < a'.length:=by have:=x.len;exact lt_of_lt_of_le ‹_› ‹_›
  have:=x.at_ i _ (List.getElem?_eq_getElem hi')
  simp only[hi,if_true]at this
  rw[this,List.getElem?_eq_getElem hi']
 ·by_cases hi':i < a'.length
  ·have:=x.at_ i _ (List.getElem?_eq_getElem hi')
   simp only[not_lt.mpr hi,if_false]at this
   rw[this,List.getElem?_eq_getElem hi']
  ·have:=x.blen
   have hl:=x.len
   rw[getElem?_eq_none (by lia),getElem?_eq_none (by exact not_lt.mp ‹_›)]
 ·simp only[hi,if_true];exact hn i hi
theorem T6(ρ:Nat→Nat)(ds:List D):(ds.map AV.d).map (Mine.ren ρ)=ds.map AV.d:=by
 rw[map_map];rfl
theorem Cl.lift0{d:Nat}{f:Value}{ds:List D}{a':List Ad}(h:Cl d f (ds.map .d) [] v a')(b:List Ad):Cl d f (ds.map .d) b (Mine.ren (λi=>b.length+i) v) (b++a'):=by
 obtain⟨b',e,h1,h2,h3,h4,h5⟩:=h.lift b id (λi hi=>by simp at hi) (λi j hi=>by simp at hi)
 rw[T6]at e
 have eb:b'=b++a':=by
  refine List.ext_getElem? λk=>?_
  by_cases hk:k < b.length
  ·rw[List.getElem?_append_left hk]
   exact h5 k hk λi hi=>by simp at hi
  ·rw[List.getElem?_append_right (by lia)]
   have:=h4 (k - b.length) (by simp)
   simp only[length_nil,sub_zero]at this
   rw[←this,show b.length+(k - b.length)=k by lia]
 rw[eb]at e
 have er:(λi=>if i < ([]:List Ad).length then id i else b.length+(i - ([]:List Ad).length))=λi=>b.length+i:=by
  funext i;simp
 rw[er]at e
 exact e
theorem Cl.lift1{d:Nat}{f:Value}{ds:List D}{r:List Ad}(h:Cl d f (.cell 0::ds.map .d) [c] v (c'::r)){b:List Ad}{i:Nat}(hi:b[i]? = some c):
  Cl d f (.cell i::ds.map .d) b (Mine.ren (λj=>if j < 1 then i else b.length+(j - 1)) v) (b.set i c'++r):=by
 have hib:=(List.getElem?_eq_some_iff.mp hi).1
 obtain⟨b',e,h1,h2,h3,h4,h5⟩:=h.lift b (λ_=>i) (λj hj=>by
  have:j=0:=by simp at hj;assumption
  subst this;simpa using hi) (λj k hj hk _=>by simp at hj hk;exact Eq.trans ‹_› (Eq.symm ‹_›))
 simp only[map_cons,T6]at e
 have eb:b'=b.set i c'++r:=by
  refine List.ext_getElem? λk=>?_
  by_cases hk:k < b.length
  ·rw[List.getElem?_append_left (by simpa using hk)]
   by_cases e:i=k
   ·subst e
    rw[getElem?_set_self hib]
    have:=h3 0 (by exact zero_lt_succ _)
    simpa using this
   ·rw[getElem?_set_ne e]
    exact h5 k hk λ_ _=>e
  ·rw[List.getElem?_append_right (by simp;lia),length_set]
   have:=h4 (k - b.length+1) (by exact zero_lt_succ _)
   simp only[length_cons,length_nil,getElem?_cons_succ]at this
   rw[←this]
   congr 1;lia
 rw[eb]at e
 exact e
theorem Cl.lift1h{d:Nat}{f:Value}{ds:List D}{r:List Ad}(h:Cl d f (.hdr 0::ds.map .d) [c] v (c'::r)){b:List Ad}{i:Nat}(hi:b[i]? = some c):
  Cl d f (.hdr i::ds.map .d) b (Mine.ren (λj=>if j < 1 then i else b.length+(j - 1)) v) (b.set i c'++r):=by
 have hib:=(List.getElem?_eq_some_iff.mp hi).1
 obtain⟨b',e,h1,h2,h3,h4,h5⟩:=h.lift b (λ_=>i) (λj hj=>by
  have:j=0:=by simp at hj;assumption
  subst this;simpa using hi) (λj k hj hk _=>by simp at hj hk;lia)
 simp only[map_cons,T6]at e
 have eb:b'=b.set i c'++r:=by
  refine List.ext_getElem? λk=>?_
  by_cases hk:k < b.length
  ·rw[List.getElem?_append_left (by simpa using hk)]
   by_cases e:i=k
   ·subst e
    rw[getElem?_set_self hib]
    have:=h3 0 (by exact zero_lt_succ _)
    simpa using this
   ·rw[getElem?_set_ne e]
    exact h5 k hk λ_ _=>e
  ·rw[List.getElem?_append_right (by simp;lia),length_set]
   have:=h4 (k - b.length+1) (by exact zero_lt_succ _)
   simp only[length_cons,length_nil,getElem?_cons_succ]at this
   rw[←this]
   congr 1;lia
 rw[eb]at e
 exact e
theorem Rm{i o j:Nat}(hi:i < 8)(ho:o < 8)(hj:j < 8)(b:List Ad):Cl 3 (.ref 364) [.d (Ak (i,o,j))] b (.cell (b.length+8)) (b++(Ey++[.m ((As (i,o,j)).map Bc)])):=
 (Y9 hi ho hj).lift0 (ds:=[Ak (i,o,j)]) b
theorem Vd{b r:List Ad}(k:Nat):(b++r)[b.length+k]? = r[k]?:=by
 rw[List.getElem?_append_right (by exact le_add_right _ _)]
 congr 1;simp
noncomputable abbrev num(n:Nat):AV:=.d (.int (n:Int))
theorem Mh(a b:Nat):Builtin.bitAnd (a:Int) (b:Int)=((a &&& b:Nat):Int):=by
 delta Builtin.bitAnd
 rw[decide_eq_true (Int.natCast_nonneg a),decide_eq_true (Int.natCast_nonneg b)]
 rfl
theorem On(a b:Nat):Builtin.bitOr (a:Int) (b:Int)=((a ||| b:Nat):Int):=by
 delta Builtin.bitOr
 have h:∀n:Nat,¬0≤Builtin.bitNot (n:Int):=λn h=>bitNot_nonneg.mp h (Int.natCast_nonneg n)
 have h2:∀x:Int,Builtin.bitNot (Builtin.bitNot x)=x:=λx=>by unfold Builtin.bitNot;lia
 rw[bitAnd_nn (h a) (h b)]
 simp only[h2,Int.toNat_natCast]
noncomputable def Ze(a b:Nat):Nat:=(a ||| b) - (a &&& b)
theorem Ti(a b:Nat):Builtin.bitXor (a:Int) (b:Int)=((Ze a b:Nat):Int):=by
 delta Builtin.bitXor Ze
 rw[On,Mh,Int.ofNat_sub (le_trans and_le_left left_le_or)]
theorem H9(a b:Nat)(σ:St):binop .BitOr (num a) (num b) σ=some (num (a ||| b),σ):=by
 show some (AV.d (D.int (Builtin.bitOr a b)),σ)=_
 rw[On]
theorem Dg(a b:Nat)(σ:St):binop .BitAnd (num a) (num b) σ=some (num (a &&& b),σ):=by
 show some (AV.d (D.int (Builtin.bitAnd a b)),σ)=_
 rw[Mh]
theorem Oy(a b:Nat)(σ:St):binop .BitXor (num a) (num b) σ=some (num (Ze a b),σ):=by
 show some (AV.d (D.int (Builtin.bitXor a b)),σ)=_
 rw[Ti]
theorem Eh(b:Nat)(h:b≤a)(σ:St):binop .Sub (num a) (num b) σ=some (num (a - b),σ):=by
 show some (AV.d (D.int ((a:Int) - (b:Int))),σ)=_
 rw[←Int.ofNat_sub h]
theorem Bu(a b:Nat)(σ:St):binop .Add (num a) (num b) σ=some (num (a+b),σ):=by
 show some (AV.d (D.int ((a:Int)+(b:Int))),σ)=_
 rw[←Int.natCast_add]
noncomputable def tm(i:Nat):Nat:=([43690,65280,61680,52428,21845,255,3855,13107]:List Nat)[i]?.getD 0
theorem Li(h:i < 8)(cel:List Ad):Cl 1 (.ref 322) [A8 i] cel (num (tm i)) cel:=by
 rcases I8 h with rfl | rfl | rfl | rfl | rfl | rfl | rfl | rfl<;>exact⟨30,by rfl⟩
noncomputable def E5(r:Nat×Nat×Nat):Nat:=match r.2.1 with
 | 0=>tm r.1 ||| tm r.2.2
 | 1=>(65535 - tm r.1) ||| tm r.2.2
 | 5=>(65535 - tm r.1) ||| tm r.2.2
 | 6=>tm r.1 ||| (65535 - tm r.2.2)
 | 2=>65535 - Ze (tm r.1) (tm r.2.2)
 | 7=>tm r.1 &&& tm r.2.2
 | _=>Ze (tm r.1) (tm r.2.2)
theorem L2(h:i < 8):tm i≤65535:=by
 rcases I8 h with rfl | rfl | rfl | rfl | rfl | rfl | rfl | rfl<;>decide
theorem Aog(ha:a≤65535)(hb:b≤65535):a ||| b≤65535:=by
 have:=or_lt_two_pow (n:=16) (show a < 2 ^ 16 by exact succ_le_succ ‹_›) (show b < 2 ^ 16 by lia)
 exact le_of_succ_le_succ ‹_›
theorem Af9(ha:a≤65535)(hb:b≤65535):Ze a b≤65535:=le_trans (sub_le _ _) (Aog ha hb)
noncomputable def Aia(rule:AV)(one two:Option AV):List (Option AV):=[some rule,one,two,none]
theorem Cz(h1:Ev d sc a σ x σ)(h:item x (.d (.int i)) σ.cel=some y)(h2:cmp op y (.d (.int j)) σ.cel=some c):Tv d sc (.Compare (.Subscript a (.Constant (.int i) n q) p) [op] [.Constant (.int j) n' q'] p') σ c σ:=Azt (Azr (Azs (Dc rfl) h1 Azo h) Azo h2)
theorem Q3(hi:i < 8)(ho:o < 8)(hj:j < 8)(cel:List Ad):Cl 2 (.ref 329) [.d (Ak (i,o,j))] cel (num (E5 (i,o,j))) cel:=by
 apply Cl.ret (loc:=Aia (.d (Ak (i,o,j))) none none) (loc':=Aia (.d (Ak (i,o,j))) (some (num (tm i))) (some (num (tm j)))) rfl rfl rfl
 apply Azg (σ₁:=⟨Aia (.d (Ak (i,o,j))) (some (num (tm i))) none,cel⟩) (Azi (Azp rfl (Azf rfl) (Azh (Azs (by exact Dc rfl) (Azf rfl) Azo rfl) Azj) (Li hi cel)) rfl)
 apply Azg (σ₁:=⟨Aia (.d (Ak (i,o,j))) (some (num (tm i))) (some (num (tm j))),cel⟩) (Azi (Azp rfl (Azf rfl) (Azh (Azs (by exact Dc rfl) (Azf rfl) Azo rfl) Azj) (Li hj cel)) rfl)
 rcases I8 ho with rfl | rfl | rfl | rfl | rfl | rfl | rfl | rfl
 ·exact Xs.ret (Azq (c:=true) (Cz (Azf rfl) rfl rfl) (Xs.ret (Sx.ret (Azn (Azf rfl) (Azf rfl) (H9 _ _ _)))))
 ·exact Azg (Azq (c:=false) (Cz (Azf rfl) rfl rfl) Azm) (Xs.ret (Azq (c:=true) (Tv.orT (Cz (Azf rfl) rfl rfl)) (Xs.ret (Sx.ret (Azn (Azn Azo (Azf rfl) (Eh _ (L2 hi) _)) (Azf rfl) (H9 _ _ _))))))
 ·exact Azg (Azq (c:=false) (Cz (Azf rfl) rfl rfl) Azm) (Azg (Azq (c:=false) (Tv.orF (Cz (Azf rfl) rfl rfl) (Cz (Azf rfl) rfl rfl)) Azm) (Azg (Azq (c:=false) (Cz (Azf rfl) rfl rfl) Azm)
   (Xs.ret (Azq (c:=true) (Cz (Azf rfl) rfl rfl) (Xs.ret (Sx.ret (Azn Azo (Azn (Azf rfl) (Azf rfl) (Oy _ _ _)) (Eh _ (Af9 (L2 hi) (L2 hj)) _))))))))
 ·exact Azg (Azq (c:=false) (Cz (Azf rfl) rfl rfl) Azm) (Azg (Azq (c:=false) (Tv.orF (Cz (Azf rfl) rfl rfl) (Cz (Azf rfl) rfl rfl)) Azm) (Azg (Azq (c:=false) (Cz (Azf rfl) rfl rfl) Azm) (Azg (Azq (c:=false) (Cz (Azf rfl) rfl rfl) Azm)
   (Azg (Azq (c:=false) (Cz (Azf rfl) rfl rfl) Azm) (Xs.ret (Sx.ret (Azn (Azf rfl) (Azf rfl) (Oy _ _ _))))))))
 ·exact Azg (Azq (c:=false) (Cz (Azf rfl) rfl rfl) Azm) (Azg (Azq (c:=false) (Tv.orF (Cz (Azf rfl) rfl rfl) (Cz (Azf rfl) rfl rfl)) Azm) (Azg (Azq (c:=false) (Cz (Azf rfl) rfl rfl) Azm) (Azg (Azq (c:=false) (Cz (Azf rfl) rfl rfl) Azm)
   (Azg (Azq (c:=false) (Cz (Azf rfl) rfl rfl) Azm) (Xs.ret (Sx.ret (Azn (Azf rfl) (Azf rfl) (Oy _ _ _))))))))
 ·exact Azg (Azq (c:=false) (Cz (Azf rfl) rfl rfl) Azm) (Xs.ret (Azq (c:=true) (Tv.orF (Cz (Azf rfl) rfl rfl) (Cz (Azf rfl) rfl rfl)) (Xs.ret (Sx.ret (Azn (Azn Azo (Azf rfl) (Eh _ (L2 hi) _)) (Azf rfl) (H9 _ _ _))))))
 ·exact Azg (Azq (c:=false) (Cz (Azf rfl) rfl rfl) Azm) (Azg (Azq (c:=false) (Tv.orF (Cz (Azf rfl) rfl rfl) (Cz (Azf rfl) rfl rfl)) Azm) (Xs.ret (Azq (c:=true) (Cz (Azf rfl) rfl rfl) (Xs.ret (Sx.ret (Azn (Azf rfl) (Azn Azo (Azf rfl) (Eh _ (L2 hj) _)) (H9 _ _ _)))))))
 ·exact Azg (Azq (c:=false) (Cz (Azf rfl) rfl rfl) Azm) (Azg (Azq (c:=false) (Tv.orF (Cz (Azf rfl) rfl rfl) (Cz (Azf rfl) rfl rfl)) Azm) (Azg (Azq (c:=false) (Cz (Azf rfl) rfl rfl) Azm) (Azg (Azq (c:=false) (Cz (Azf rfl) rfl rfl) Azm)
   (Xs.ret (Azq (c:=true) (Cz (Azf rfl) rfl rfl) (Xs.ret (Sx.ret (Azn (Azf rfl) (Azf rfl) (Dg _ _ _)))))))))
section
variable {d:Nat} {sc:Scope} {σ σ₁ σ₂ σ₃:St}
theorem Ev.conv{z name kn:Str}{zp ap p kp kq:Pos}{e:Expr}{b:Bool}{kc:Nat}{i:Nat}{cel:List Ad}(hg:(ap.endLine != p.line||name != ("_convert_string_type" : Str)||kn != ("name" : Str))=false)
  (h1:Ev d sc (.Name z zp) σ (.hdr i) σ₁) (h2:Ev d sc e σ₁ u σ₂) (h:Cl d .none [.hdr i,u,.d (.bool b)] σ₂.cel v cel):Ev d sc (.Call (.Attribute (.Name z zp) name ap) [e] [⟨some kn,.Constant (.bool b) kc kp,kq⟩] p) σ v ⟨σ₂.loc,cel⟩:=by
 refine xe h1.at λN h1=>?_
 refine xe h2.at λM h2=>?_
 refine xe h.at λL h=>?_
 exact Ev.of (N:=N+M+L) (.conv hg (h1 _ (by lia)) (h2 _ (by lia)) (h _ (by lia)))
theorem Sx.items(hg:(ap.endLine != p.line || !Cy a||nm != ("items" : Str))=false)(h1:Ev d sc a σ (.dstr []) σ₁):Sx d sc (.For t (.Call (.Attribute a nm ap) [] [] p) b [] p') σ .next σ₁:=by
 refine xe h1.at λN h1=>?_
 exact Sx.of (.items hg (h1 _ (le_refl N)))
theorem Ev.lc(hok:(!Ex sc sc'||g.is_async != 0)=false)(h1:Ev d sc g.iter σ x ⟨loc₁,cel₁⟩)(h2:Ai cel₁ x=some (ds,cel))(hn:cel.length=n)(hi:Cq sc sc' loc₁=loc)
  (h3:Tn d sc' elt n g.target g.ifs ds ⟨loc,cel++[.m []]⟩ ⟨loc',cel'⟩):Ev d sc (.ListComp elt [g] sc' p) σ (.cell n) ⟨loc₁,cel'⟩:=by
 subst hn;subst hi
 exact Ev.comp hok h1 h2 h3
end
noncomputable def Dn:Stmt→Expr
 | .Return (some e) _=>e
 | .Assign _ e _=>e
 | .If e _ _ _=>e
 | _=>.Constant .none 0 default
noncomputable def I2:Expr→Expr
 | .ListComp e _ _ _=>e
 | e=>e
noncomputable def Vc:Expr→Scope
 | .ListComp _ _ s _=>s
 | _=>default
noncomputable def Dy:Expr→Nat→Comprehension
 | .ListComp e gs _ _,i=>gs[i]?.getD ⟨e,e,[],0⟩
 | e,_=>⟨e,e,[],0⟩
theorem P1(h:i < 8)(b:Bool)(k:Nat)(cel:List Ad):Cl 2 .none [.hdr k,A8 i,.d (.bool b)] cel (A8 i) cel:=by
 rcases I8 h with rfl | rfl | rfl | rfl | rfl | rfl | rfl | rfl<;>rcases b<;>exact⟨30,by rfl⟩
theorem Ae3(h:i < 8)(σ:St)(hk:σ.cel[k]? = some (.m [.str (lit i)])):meth (.d (.str "; ")) "join" [.cell k] σ=some (A8 i,σ):=by
 show((((σ.cel[k]?).map Ad.items).bind λl=>(Ia l).bind λys=>Gi (fits ((ys.map (·.length)).sum+ys.length*Str.length "; ")) (Txt.join "; " ys)).map λy=>(AV.d (D.str y),σ))=_
 rw[hk]
 rcases I8 h with rfl | rfl | rfl | rfl | rfl | rfl | rfl | rfl<;>rfl
theorem P5(ha:a < 8)(hb:b < 8)(hl:xs.length≤1000):Cl 3 (.ref 294) [.hdr 0,A8 a,A8 b] [.m xs] (.d .none) [.m (xs++[Bc (a,b)]),.m [.str (lit b)]]:=by
 apply Cl.next (loc:=[some (.hdr 0),some (A8 a),some (A8 b),some (.dstr []),none,none,none,none]) rfl rfl rfl
 apply Azg (σ₁:=⟨[some (.hdr 0),some (A8 a),some (A8 b),some (.dstr []),some (.cell 1),none,none,none],[.m xs,.m []]⟩) (Azi (Ev.list Azj rfl rfl) rfl)
 apply Azg (σ₁:=⟨[some (.hdr 0),some (A8 a),some (A8 b),some (.dstr []),some (.cell 1),none,none,none],[.m xs,.m [.str (lit b)]]⟩)
  (Azq (c:=true) (Azt (Azr (Azf rfl) Ev.none rfl)) (Azg (Azi (Ev.conv rfl (Azf rfl) (Azf rfl) (P1 hb _ _ _)) rfl) (Azg (Azu (Ev.meth rfl (by exact Mq rfl) (Azf rfl) (Azh (Azf rfl) Azj) rfl)) Azm)))
 apply Azg (Sx.items rfl (Azf rfl))
 exact Azg (Azu (Ev.meth rfl (by exact Mq rfl) (Ev.hattr (Azf rfl)) (Azh (Ev.tuple (Azh (Ev.conv rfl (Azf rfl) (Azf rfl) (P1 ha _ _ _)) (Azh (Ev.meth rfl (by exact Mq rfl) Ev.str (Azh (Azf rfl) Azj) (Ae3 hb _ rfl)) Azj)) rfl rfl) Azj) (Bq rfl hl))) Azm
noncomputable abbrev upS(i:Nat):AV:=.d (.str (Txt.upper (lit i)))
theorem Ang(h:i < 8)(σ:St):meth (A8 i) "upper" [] σ=some (upS i,σ):=by
 rcases I8 h with rfl | rfl | rfl | rfl | rfl | rfl | rfl | rfl<;>rfl
theorem Abb(h:i < 8)(σ:St):meth (A8 i) "lower" [] σ=some (A8 i,σ):=by
 rcases I8 h with rfl | rfl | rfl | rfl | rfl | rfl | rfl | rfl<;>rfl
theorem Ace(h:i < 8)(σ:St):meth (upS i) "lower" [] σ=some (A8 i,σ):=by
 rcases I8 h with rfl | rfl | rfl | rfl | rfl | rfl | rfl | rfl<;>rfl
theorem Af5(ha:a < 8)(hb:b < 8):(lit a==lit b)=(a==b):=by
 have h:(List.range 8).all (λa=>(List.range 8).all λb=>(lit a==lit b)==(a==b))=true:=by decide +kernel
 have h1:=all_eq_true.mp (all_eq_true.mp h a (mem_range.mpr ha)) b (mem_range.mpr hb)
 exact eq_of_beq h1
noncomputable def gaE:Expr:=Dn (sub (Ft (Fg 70 7)) 1)
theorem Ado(ha:a < 8)(hb:b < 8)(cel:List Ad):cmp .Eq (A8 a) (A8 b) cel=some (a==b):=by
 show some (lit a==lit b)=_
 rw[Af5 ha hb]
theorem Ls(hi:i < 8):∀(E:List (Nat×Nat)) (kv:Option AV) (ys:List D) (c:Ad),(∀p∈E,p.1 < 8∧p.2 < 8)→ys.length+E.length≤1000→
  ∃kv',Tn 2 (Vc gaE) (I2 gaE) 1 (Dy gaE 0).target (Dy gaE 0).ifs (E.map Bc) ⟨[none,kv,some (A8 i)],[c,.m ys]⟩ ⟨[none,kv',some (A8 i)],[c,.m (ys++(E.filter (·.1==i)).map λp=>.str (lit p.2))]⟩
 | [],kv,ys,c,_,_=>by
  refine⟨kv,?_⟩
  simp only[filter_nil,map_nil,append_nil]
  exact .nil
 | (a,b)::E,kv,ys,c,h,hl=>by
  have h0:=h (a,b) mem_cons_self
  simp only[length_cons]at hl
  cases hai:(a==i)with
  | false=>
   refine xe (Ls hi E (some (.d (Bc (a,b)))) ys c (λp hp=>h p (mem_cons_of_mem _ hp)) (by exact le_of_lt ‹_›)) λkv' ih=>?_
   refine⟨kv',?_⟩
   rw[filter_cons_of_neg (by simp[hai])]
   exact .skip (σ₁:=⟨[none,some (.d (Bc (a,b))),some (A8 i)],[c,.m ys]⟩) rfl rfl (Azt (Azr (Ev.meth rfl (by exact Mq rfl) (Azs (by exact Dc rfl) (Azf rfl) Azo rfl) Azj (Abb h0.1 _)) (Azf rfl) (by rw[Ado h0.1 hi,hai]))) ih
  | true=>
   refine xe (Ls hi E (some (.d (Bc (a,b)))) (ys++[.str (lit b)]) c (λp hp=>h p (mem_cons_of_mem _ hp)) (by simp;lia)) λkv' ih=>?_
   refine⟨kv',?_⟩
   rw[filter_cons_of_pos (by trivial),map_cons]
   rw[append_assoc]at ih
   exact .take (σ₁:=⟨[none,some (.d (Bc (a,b))),some (A8 i)],[c,.m ys]⟩) (σ₂:=⟨[none,some (.d (Bc (a,b))),some (A8 i)],[c,.m ys]⟩) rfl (.inr ⟨_,rfl,(Azt (Azr (Ev.meth rfl (by exact Mq rfl) (Azs (by exact Dc rfl) (Azf rfl) Azo rfl) Azj (Abb h0.1 _)) (Azf rfl) (by rw[Ado h0.1 hi,hai])))⟩)
    (Azs (by exact Dc rfl) (Azf rfl) Azo rfl) rfl rfl (At (by lia)) ih
theorem Adr{i:Nat}(hi:i < 8){E:List (Nat×Nat)}(hE:∀p∈E,p.1 < 8∧p.2 < 8)(hl:E.length≤1000)(hc:c.items=E.map Bc):
  Cl 3 (.ref 236) [.hdr 0,upS i] [c] (.cell 1) [.f (E.map Bc),.m ((E.filter (·.1==i)).map λp=>.str (lit p.2))]:=by
 refine xe (Ls hi E none [] (.f (E.map Bc)) hE (by simp;assumption)) λkv h=>?_
 have hit:Ai [c] (.cell 0)=some (E.map Bc,[.f (E.map Bc)]):=by
  show some (c.items,[Ad.f c.items])=_
  rw[hc]
 apply Cl.ret (loc:=[some (.hdr 0),some (upS i)]) rfl rfl rfl
 apply Azg (σ₁:=⟨[some (.hdr 0),some (A8 i)],[c]⟩) (Azi (Ev.conv rfl (Azf rfl) (Ev.meth rfl (by exact Mq rfl) (Azf rfl) Azj (Ace hi _)) (P1 hi _ _ _)) rfl)
 exact Xs.ret (Sx.ret (Ev.lc rfl (Ev.hattr (Azf rfl)) hit rfl rfl h))
noncomputable def Ap(l:List Str):List D:=l.map D.str
theorem A4(l:List Str):(Ap l).length=l.length:=length_map _
theorem Yj(h:Aw cel a=some (Ap l))(hi:l[i]? = some x)(hl:l.length≤1000):item a (num i) cel=some (.d (.str x)):=
 Ka h (getElem?_map.trans (congrArg _ hi)) ((A4 l).symm▸hl)
structure Plc(l:List Str)(y:Str)(r:Nat):Prop where
 le:r≤l.length
 lt:∀(i:Nat) (x:Str),l[i]? = some x→decide (x.cps.toList < y.cps.toList)=decide (i < r)
theorem Afe(hp:Plc l y r)(hl:l.length≤1000)(ha:Aw cel a=some (Ap l)):∀(m lo hi:Nat) (mid:Option AV),hi - lo≤m→lo≤r→r≤hi→hi≤l.length→
  ∃mid',Wh 1 (Ke (st 4)) (B1 (sub (Hw (sub (Ft (st 4)) 2)) 0)) (Bh (sub (Hw (sub (Ft (st 4)) 2)) 0)) ⟨Lu a (.d (.str y)) (num lo) (num hi) mid,cel⟩ .next ⟨Lu a (.d (.str y)) (num r) (num r) mid',cel⟩:=by
 intro m
 have fin:∀(lo hi:Nat) (mid:Option AV),¬lo < hi→lo≤r→r≤hi→∃mid',Wh 1 (Ke (st 4)) (B1 (sub (Hw (sub (Ft (st 4)) 2)) 0)) (Bh (sub (Hw (sub (Ft (st 4)) 2)) 0)) ⟨Lu a (.d (.str y)) (num lo) (num hi) mid,cel⟩ .next ⟨Lu a (.d (.str y)) (num r) (num r) mid',cel⟩:=by
  intro lo hi mid h1 h2 h3
  have e1:lo=r:=by omega
  have e2:hi=r:=by omega
  rw[e1,e2]
  have:cmp .Lt (num r) (num r) cel=some false:=(F9 r r cel).trans (congrArg some (decide_eq_false (lt_irrefl _)))
  exact⟨mid,Wh.done (Azt (Azr (Azf rfl) (Azf rfl) this))⟩
 induction m with
 | zero=>exact λlo hi mid h1 h2 h3 h4=>fin lo hi mid (by omega) h2 h3
 | succ m ih=>
  intro lo hi mid h1 h2 h3 h4
  by_cases hlt:lo < hi
  ·have hx:(lo+hi) / 2 < l.length:=by omega
   have ht:cmp .Lt (num lo) (num hi) cel=some true:=(F9 lo hi cel).trans (congrArg some (decide_eq_true hlt))
   have hi':=Yj ha (List.getElem?_eq_getElem hx) hl
   have key:=hp.lt _ _ (List.getElem?_eq_getElem hx)
   have hcmp:cmp .Lt (.d (.str l[(lo+hi) / 2])) (.d (.str y)) cel=some (decide ((lo+hi) / 2 < r)):=by rw[←key];rfl
   by_cases hc:(lo+hi) / 2 < r
   ·refine xe (ih ((lo+hi) / 2+1) hi (some (num ((lo+hi) / 2))) (by omega) (by omega) h3 h4) λmid' w=>?_
    exact⟨mid',Wh.turn (Azt (Azr (Azf rfl) (Azf rfl) ht)) (Azg (Azi (Azn (Azn (Azf rfl) (Azf rfl) rfl) Azo (Ha lo hi _)) rfl) (Azg (Azq (c:=true) (Azt (Azr (Azs (by exact Dc rfl) (Azf rfl) (Azf rfl) hi') (Azf rfl) (hcmp.trans (by rw[decide_eq_true hc])))) (Azg (Azi (Azn (Azf rfl) Azo rfl) rfl) Azm)) Azm)) w⟩
   ·refine xe (ih lo ((lo+hi) / 2) (some (num ((lo+hi) / 2))) (by omega) h2 (by omega) (by omega)) λmid' w=>?_
    exact⟨mid',Wh.turn (Azt (Azr (Azf rfl) (Azf rfl) ht)) (Azg (Azi (Azn (Azn (Azf rfl) (Azf rfl) rfl) Azo (Ha lo hi _)) rfl) (Azg (Azq (c:=false) (Azt (Azr (Azs (by exact Dc rfl) (Azf rfl) (Azf rfl) hi') (Azf rfl) (hcmp.trans (by rw[decide_eq_false hc])))) (Azg (Azi (Azf rfl) rfl) Azm)) Azm)) w⟩
  ·exact fin lo hi mid hlt h2 h3
theorem W0(hp:Plc l y r)(hl:l.length≤1000)(ha:Aw cel a=some (Ap l)):
  ∃loc',Xs 1 (Ke (st 4)) (Ft (st 4)) ⟨Lu a (.d (.str y)) (.d (.int 0)) (.d .none) none,cel⟩ (.ret (num r)) ⟨loc',cel⟩:=by
 refine xe (Afe hp hl ha l.length 0 l.length none (by omega) (by omega) hp.le (le_refl _)) λmid w=>?_
 have hlen:(num (Ap l).length)=num l.length:=by rw[A4]
 refine⟨Lu a (.d (.str y)) (num r) (num r) mid,?_⟩
 apply Azg (σ₁:=⟨Lu a (.d (.str y)) (.d (.int 0)) (.d .none) none,cel⟩) (Azq (c:=false) (Azt (Azr (Azf rfl) Azo rfl)) Azm)
 apply Azg (σ₁:=⟨Lu a (.d (.str y)) (.d (.int 0)) (num l.length) none,cel⟩) (Azq (c:=true) (Azt (Azr (Azf rfl) Ev.none rfl)) (Azg (Azi (Azp rfl (Azf rfl) (Azh (Azf rfl) Azj) (hlen▸Cl.len ha (At (by rw[A4];omega)))) rfl) Azm))
 exact Azg (Azq (c:=true) (Azt (Azr (Azf rfl) Ev.none rfl)) (Azg (Sx.while w) Azm)) (Xs.ret (Sx.ret (Azf rfl)))
theorem Dq(hp:Plc l y r)(hl:l.length≤1000)(ha:Aw cel a=some (Ap l)):Cl 2 (.ref 65) [a,.d (.str y)] cel (num r) cel:=by
 refine xe (W0 hp hl ha) λloc' h=>?_
 exact Cl.ret rfl rfl rfl h
theorem Jz(hp:Plc l y r)(hl:l.length≤1000)(ha:Aw cel a=some (Ap l)):Cl 2 (.ref 65) [a,.d (.str y),.d (.int 0),.d .none] cel (num r) cel:=by
 refine xe (W0 hp hl ha) λloc' h=>?_
 exact Cl.ret rfl rfl rfl h
theorem Xi(hp:Plc l y r)(hl:l.length≤1000)(ha:cel[i]? = some (.m (Ap l))):Cl 3 (.ref 56) [.cell i,.d (.str y)] cel (.d .none) (cel.set i (.m (Ap (l.take r++y::l.drop r)))):=by
 have hl':Aw cel (.cell i)=some (Ap l):=by simp only[Aw,ha,map_some,Ad.items]
 have e:Sf (Ap l) r (.str y)=Ap (l.take r++y::l.drop r):=by
  unfold Sf Ap
  rw[map_append,map_cons,map_take,map_drop]
 have hm:∀σ:St,σ.cel=cel→meth (.cell i) "insert" [num r,.d (.str y)] σ=some (.d .none,⟨σ.loc,cel.set i (.m (Ap (l.take r++y::l.drop r)))⟩):=by
  intro σ hσ
  subst hσ
  rw[←e]
  exact Aba ha (A4 l▸hp.le) (by rw[A4];lia)
 apply Cl.next (loc:=[some (.cell i),some (.d (.str y)),some (.d (.int 0)),some (.d .none),some (.d .none),none]) (loc':=[some (.cell i),some (.d (.str y)),some (num r),some (.d .none),some (.d .none),none]) rfl rfl rfl
 apply Azg (σ₁:=⟨[some (.cell i),some (.d (.str y)),some (num r),some (.d .none),some (.d .none),none],cel⟩) (Azq (c:=true) (Azt (Azr (Azf rfl) Ev.none rfl)) (Azg (Azi (Azp rfl (Azf rfl) (Azh (Azf rfl) (Azh (Azf rfl) (Azh (Azf rfl) (Azh (Azf rfl) Azj)))) (Jz hp hl hl')) rfl) Azm))
 exact Azg (Azu (Ev.meth rfl (by exact Mq rfl) (Azf rfl) (Azh (Azf rfl) (Azh (Azf rfl) Azj)) (hm _ rfl))) Azm
theorem J7(xs:List D)(lo hi:Option Int):pick xs lo hi=(xs.drop (lo.elim 0 (clipAt xs.length))).take (hi.elim xs.length (clipAt xs.length) - lo.elim 0 (clipAt xs.length)):=by
 unfold pick
 rw[sliceBounds_plain]
 simp only[sliceRange_one]
 have h:=pick_run xs.toArray (lo.elim 0 (clipAt xs.length)) (hi.elim xs.length (clipAt xs.length) - lo.elim 0 (clipAt xs.length))
 simp only[getElem?_toArray]at h
 exact h
theorem Ob(xs:List D)(r:Nat)(h:r≤xs.length):pick xs none (some (r:Int))=xs.take r:=by
 rw[J7]
 simp only[Option.elim,clipAt_nat,drop_zero,sub_zero]
 rw[min_eq_left h]
theorem Nn(xs:List D)(r:Nat)(h:r≤xs.length):pick xs (some (r:Int)) none=xs.drop r:=by
 rw[J7]
 simp only[Option.elim,clipAt_nat]
 rw[min_eq_left h,take_of_length_le (by simp)]
theorem Y8(xs:List D):pick xs (some (-1)) none=xs.drop (xs.length - 1):=by
 rw[J7]
 have:=clipAt_neg xs.length 1 (by decide)
 simp only[Option.elim]
 rw[show(-1:Int) = -((1:Nat):Int)from rfl,this,take_of_length_le (by simp)]
theorem Fn{i:Nat}{c:Ad}{lo hi:Option Int}{σ:St}(h:σ.cel[i]? = some c)(hl:c.items.length≤1000):cut (.cell i) lo hi σ=some (.cell σ.cel.length,⟨σ.loc,σ.cel++[.m (pick c.items lo hi)]⟩):=by
 exact Rd (By h) (At (by exact le_add_left_of_le ‹_›))
noncomputable def Cb(n:Nat)(f:Nat→Int):List D:=(List.range n).map λx=>D.int (f x)
noncomputable def Al(n:Nat)(f:Nat→Nat):List D:=(List.range n).map λx=>D.int (f x:Int)
noncomputable def Bv(gs:List (List Nat)):List D:=gs.map λG=>D.lst (Ac G)
theorem Cf(n:Nat)(f:Nat→Int):(Cb n f).length=n:=by simp[Cb]
theorem Ce(n:Nat)(f:Nat→Nat):(Al n f).length=n:=by simp[Al]
theorem Hg(f:Nat→Int)(h:k < n):(Cb n f)[k]? = some (.int (f k)):=by
 simp[Cb,h]
theorem Fs(f:Nat→Nat)(h:k < n):(Al n f)[k]? = some (.int (f k:Int)):=by
 simp[Al,h]
theorem Oo(n k:Nat)(f:Nat→Int)(v:Int):(Cb n f).set k (.int v)=Cb n (Ho f k v):=by
 refine List.ext_getElem? λj=>?_
 rw[getElem?_set]
 unfold Cb
 simp only[length_map,length_range,getElem?_map]
 split
 ·rename_i e
  subst e
  split
  ·rename_i h
   simp[h,C1]
  ·rename_i h
   simp[h]
 ·rename_i e
  by_cases h:j < n
  ·simp[h,Bd f v (Ne.symm e)]
  ·simp[h]
theorem I6(n k:Nat)(f:Nat→Nat)(v:Nat):(Al n f).set k (.int (v:Int))=Al n (Ho f k v):=by
 refine List.ext_getElem? λj=>?_
 rw[getElem?_set]
 unfold Al
 simp only[length_map,length_range,getElem?_map]
 split
 ·rename_i e
  subst e
  split
  ·rename_i h
   simp[h,C1]
  ·rename_i h
   simp[h]
 ·rename_i e
  by_cases h:j < n
  ·simp[h,Bd f v (Ne.symm e)]
  ·simp[h]
theorem A2(h:cel[i]? = some c)(hk:c.items[k]? = some x)(hl:c.items.length≤1000):item (.cell i) (num k) cel=some (.d x):=by
 exact Ka (By h) hk hl
structure Do(R:List Nat):Prop where
 lt:∀l∈R,l < 8
 len:R.length≤8
 nd:R.Nodup
 plc:∀l∈R,Plc (R.map lit) (lit l) (R.idxOf l)
noncomputable def mk(n:Nat)(s:GS)(rc tc:Ad)(r:List Ad):List Ad:=.m (Ac s.pile) :: .m (Ac s.bounds) :: .m (Cb n s.seen) :: .m (Bv s.groups) :: .m (Al n s.leads)::rc::tc::r
noncomputable def A1(k:Nat)(li j g h:Option AV):List (Option AV):=[some (num k),some (.cell 5),some (.hdr 6),some (.cell 0),some (.cell 1),some (.cell 2),some (.cell 3),some (.cell 4),li,j,g,h,none,none,none,none]
section
variable {n k d:Nat} {s:GS} {rc tc:Ad} {r:List Ad}
theorem Fh(l:List Nat)(x:Nat):Ac l++[.int (x:Int)]=Ac (l++[x]):=by simp[Ac]
theorem Pc(hk:k < n)(hn:n≤8)(hp:s.pile.length≤8)(hb:s.bounds.length≤8)
  (hr:Xs (d+1) (Ke (st 81)) ((Ft (st 81)).drop 3) ⟨A1 k li j g h,mk n (s.push k) rc tc r⟩ fl σ'):Xs (d+1) (Ke (st 81)) (Ft (st 81)) ⟨A1 k li j g h,mk n s rc tc r⟩ fl σ':=by
 have e0:(Ac s.pile).length=s.pile.length:=Ah _
 have hf:fits (Ac s.pile).length=true:=At (by rw[e0];exact le_trans ‹_› (by decide))
 have lp:∀(c1 c2:Ad),Cl (d+1) (.builtin "len") [.cell 0] (.m (Ac s.pile)::c1::c2 :: .m (Bv s.groups) :: .m (Al n s.leads)::rc::tc::r) (num s.pile.length) (.m (Ac s.pile)::c1::c2 :: .m (Bv s.groups) :: .m (Al n s.leads)::rc::tc::r):=λc1 c2=>by
  have:=Cl.len (d:=d) (a:=.cell 0) (cel:=.m (Ac s.pile)::c1::c2 :: .m (Bv s.groups) :: .m (Al n s.leads)::rc::tc::r) (l:=Ac s.pile) rfl hf
  rw[e0]at this
  exact this
 apply Azg (σ₁:=⟨A1 k li j g h,.m (Ac s.pile) :: .m (Ac s.bounds) :: .m (Cb n (Ho s.seen k (s.pile.length:Int))) :: .m (Bv s.groups) :: .m (Al n s.leads)::rc::tc::r⟩)
 ·rw[←Oo n k s.seen (s.pile.length:Int)]
  exact Sx.setitem (σ₁:=⟨A1 k li j g h,mk n s rc tc r⟩) (σ₂:=⟨A1 k li j g h,mk n s rc tc r⟩) (σ₃:=⟨A1 k li j g h,mk n s rc tc r⟩) (c:=2) (xs:=Cb n s.seen) (by exact nsi rfl) (Azp rfl (Azf rfl) (Azh (Azf rfl) Azj) (lp _ _)) (Azf rfl) (Azf rfl) rfl (by rw[Cf];exact E0 hk (by exact le_trans ‹_› (by decide)))
 apply Azg (σ₁:=⟨A1 k li j g h,.m (Ac s.pile) :: .m (Ac (s.bounds++[s.pile.length])) :: .m (Cb n (Ho s.seen k (s.pile.length:Int))) :: .m (Bv s.groups) :: .m (Al n s.leads)::rc::tc::r⟩)
 ·rw[←Fh]
  exact Azu (Ev.meth rfl (by exact Mq rfl) (Azf rfl) (Azh (Azp rfl (Azf rfl) (Azh (Azf rfl) Azj) (lp _ _)) Azj) (Bq (xs:=Ac s.bounds) rfl (by rw[Ah];exact le_add_left_of_le ‹_›)))
 apply Azg (σ₁:=⟨A1 k li j g h,mk n (s.push k) rc tc r⟩)
 ·show Sx _ _ _ _ _ ⟨_,.m (Ac (s.pile++[k]))::_⟩
  rw[←Fh s.pile k]
  exact Azu (Ev.meth rfl (by exact Mq rfl) (Azf rfl) (Azh (Azf rfl) Azj) (Bq (xs:=Ac s.pile) rfl (by rw[Ah];exact le_trans ‹_› (by decide))))
 exact hr
end
noncomputable def sF:Scope:=Ke (st 81)
noncomputable def lF:List Stmt:=Bh (sub (Ft (st 81)) 3)
theorem Ev.seen(hj:j < n)(hn:n≤8):
  Ev d sF (.Subscript (.Name "seen" p) (.Name "j" p') p'') ⟨A1 k li (some (num j)) g h,mk n s rc tc r⟩ (.d (.int (s.seen j))) ⟨A1 k li (some (num j)) g h,mk n s rc tc r⟩:=
 Azs (by exact Dc rfl) (Azf rfl) (Azf rfl) (A2 (c:=.m (Cb n s.seen)) rfl (Hg _ hj) (by show(Cb n s.seen).length≤1000;rw[Cf];exact le_add_left_of_le ‹_›))
section
variable {R:List Nat} {n k j b d:Nat} {s s1:GS} {rc tc rc1 tc1:Ad} {r r1:List Ad} {li jv g h:Option AV}
theorem Xk(hR:Do R)(hb:b∈R)(hrc:rc.items=Ap (R.map lit))(hr:Xs (d+3) sF (lF.drop 1) ⟨A1 k (some (A8 b)) (some (num (R.idxOf b))) g h,mk n s rc tc r⟩ fl σ'):
  Xs (d+3) sF lF ⟨A1 k (some (A8 b)) jv g h,mk n s rc tc r⟩ fl σ':=by
 refine Azg (σ₁:=⟨A1 k (some (A8 b)) (some (num (R.idxOf b))) g h,mk n s rc tc r⟩) (Azi (Azp rfl (Azf rfl) (Azh (Azf rfl) (Azh (Azf rfl) Azj)) ((Dq (hR.plc b hb) (by rw[length_map];have:=hR.len;exact le_add_left_of_le ‹_›) ?_).deeper (by exact le_add_left _ _))) rfl) hr
 show some rc.items=_
 rw[hrc]
theorem I7(hk:k < n)(hj:j < n)(hn:n≤8):Xs (d+3) sF (lF.drop 2) ⟨A1 k li (some (num j)) g h,mk n s rc tc r⟩ .next ⟨A1 k li (some (num j)) g h,mk n (s.lead k j) rc tc r⟩:=by
 have hl:(Al n s.leads).length≤1000:=by rw[Ce];lia
 refine Azg (σ₁:=⟨A1 k li (some (num j)) g h,mk n (s.lead k j) rc tc r⟩) ?_ Azm
 show Sx _ _ _ _ _ ⟨_,.m _ :: .m _ :: .m _ :: .m _ :: .m (Al n (Ho s.leads k (s.leads k ||| s.leads j)))::_⟩
 rw[←I6 n k s.leads (s.leads k ||| s.leads j)]
 exact Sx.setitem (σ₁:=⟨A1 k li (some (num j)) g h,mk n s rc tc r⟩) (σ₂:=⟨A1 k li (some (num j)) g h,mk n s rc tc r⟩) (σ₃:=⟨A1 k li (some (num j)) g h,mk n s rc tc r⟩) (c:=4) (xs:=Al n s.leads) (by exact nsi rfl)
  (Azn (Azs (by exact Dc rfl) (Azf rfl) (Azf rfl) (A2 (c:=.m (Al n s.leads)) rfl (Fs _ hk) hl)) (Azs (by exact Dc rfl) (Azf rfl) (Azf rfl) (A2 (c:=.m (Al n s.leads)) rfl (Fs _ hj) hl)) (H9 _ _ _))
  (Azf rfl) (Azf rfl) rfl (by rw[Ce];exact E0 hk (by lia))
theorem S8(hk:k < n)(hj:j < n)(hn:n≤8)(hw:s.seen j = -1)(hc:Cl (d+3) (.ref 371) [num j,.cell 5,.hdr 6,.cell 0,.cell 1,.cell 2,.cell 3,.cell 4] (mk n s rc tc r) (.d .none) (mk n s1 rc1 tc1 r1)):
  Xs (d+3) sF (lF.drop 1) ⟨A1 k li (some (num j)) g h,mk n s rc tc r⟩ .next ⟨A1 k li (some (num j)) g h,mk n (s1.lead k j) rc1 tc1 r1⟩:=by
 refine Azg (Azq (c:=true) (Azt (Azr (Ev.seen hj hn) Ev.neg ?_)) (Azg (Azu (Azp rfl (Azf rfl) (Azh (Azf rfl) (Azh (Azf rfl) (Azh (Azf rfl) (Azh (Azf rfl) (Azh (Azf rfl) (Azh (Azf rfl) (Azh (Azf rfl) (Azh (Azf rfl) Azj)))))))) hc)) Azm)) (I7 hk hj hn)
 rw[hw];rfl
theorem Ym(hk:k < n)(hj:j < n)(hn:n≤8)(hw:s.seen j = -2):Xs (d+3) sF (lF.drop 1) ⟨A1 k li (some (num j)) g h,mk n s rc tc r⟩ .next ⟨A1 k li (some (num j)) g h,mk n (s.lead k j) rc tc r⟩:=by
 refine Azg (Azq (c:=false) (Azt (Azr (Ev.seen hj hn) Ev.neg ?_)) (Azg (Azq (c:=false) (Azt (Azr (Ev.seen hj hn) Azo ?_)) Azm) Azm)) (I7 hk hj hn)
 ·skip
  rw[hw];rfl
 ·skip
  rw[hw];rfl
theorem Xf(hk:k < n)(hj:j < n)(hn:n≤8){c:Nat}(hw:s.seen j=(c:Int))(hs:s.bounds.Pairwise (· < ·))(hl:s.bounds.length≤8):
  ∃r',Xs (d+3) sF (lF.drop 1) ⟨A1 k li (some (num j)) g h,mk n s rc tc r⟩ .next ⟨A1 k li (some (num j)) g h,mk n ((s.cutb c).lead k j) rc tc r'⟩:=by
 have hlen:(s.bounds.filter (· ≤c)).length≤s.bounds.length:=length_filter_le _ _
 have e:pick (Ac s.bounds) none (some ((s.bounds.filter (· ≤c)).length:Nat))=Ac (s.bounds.filter (· ≤c)):=by
  rw[Ob _ _ (by rw[Ah];exact hlen)]
  unfold Ac
  rw[←map_take]
  congr 1
  clear hw hl hlen
  induction hb:s.bounds generalizing s with
  | nil=>rfl
  | cons x l ih=>
   rw[hb,pairwise_cons]at hs
   by_cases hx:x≤c
   ·rw[filter_cons_of_pos (by simpa using hx),length_cons,take_succ_cons]
    congr 1
    exact ih (s:=⟨[],l,s.seen,[],s.leads⟩) hs.2 rfl
   ·have h0:l.filter (· ≤c)=[]:=by
     rw[filter_eq_nil_iff]
     intro z hz
     have:=hs.1 z hz
     simp only[decide_eq_true_eq];lia
    rw[filter_cons_of_neg (by simpa using hx),h0]
    rfl
 have hcel:(mk n s rc tc (r++[.m (Ac (s.bounds.filter (· ≤c)))]))[(mk n s rc tc r).length]? = some (.m (Ac (s.bounds.filter (· ≤c)))):=by
  show(mk n s rc tc r++[_])[_]? = _
  simp
 have hcut:cut (.cell 1) none (some ((s.bounds.filter (· ≤c)).length:Nat)) ⟨A1 k li (some (num j)) g h,mk n s rc tc r⟩=some (.cell (mk n s rc tc r).length,⟨A1 k li (some (num j)) g h,mk n s rc tc (r++[.m (Ac (s.bounds.filter (· ≤c)))])⟩):=by
  rw[Fn (c:=.m (Ac s.bounds)) rfl (by show(Ac s.bounds).length≤1000;rw[Ah];exact le_trans ‹_› (by decide))]
  show some (_,(⟨_,mk n s rc tc r++[.m (pick (Ac s.bounds) none _)]⟩:St))=_
  rw[e];rfl
 have hbr:Cl (d+3) (.ref 47) [.cell 1,.d (.int (s.seen j))] (mk n s rc tc r) (num (s.bounds.filter (· ≤c)).length) (mk n s rc tc r):=by
  rw[hw]
  exact(J5 hs (by lia) c (a:=.cell 1) rfl).deeper (by lia)
 refine⟨r++[.m (Ac (s.bounds.filter (· ≤c)))],?_⟩
 refine Azg (Azq (c:=false) (Azt (Azr (Ev.seen hj hn) Ev.neg ?_)) (Azg (Azq (c:=true) (Azt (Azr (Ev.seen hj hn) Azo ?_)) (Azg (σ₁:=⟨A1 k li (some (num j)) g h,mk n (s.cutb c) rc tc (r++[.m (Ac (s.bounds.filter (· ≤c)))])⟩) (Sx.setall (i:=1) (xs:=Ac s.bounds) (Ev.slice (Azf rfl) .no (.yes (Azp rfl (Azf rfl) (Azh (Azf rfl) (Azh (Ev.seen hj hn) Azj)) hbr)) hcut) (Azf rfl) hcel rfl ?_) Azm)) Azm)) (I7 (s:=s.cutb c) hk hj hn)
 ·show some (s.seen j == -1)=some false
  rw[hw];rfl
 ·show some (decide (0≤s.seen j))=some true
  rw[hw];simp
 ·refine At ?_
  show(Ac s.bounds).length+(Ac (s.bounds.filter (· ≤c))).length≤_
  rw[Ah,Ah];lia
end
theorem Ahq(j:Nat)(h:j≤1000)(σ:St):binop .LShift (.d (.int 1)) (num j) σ=some (num (2 ^ j),σ):=by
 show(Gi (decide (0≤(j:Int)∧(j:Int)≤1000∧(1:Int).natAbs < 2 ^ 64)) (1*2 ^ (j:Int).toNat)).map (λz=>(AV.d (D.int z),σ))=_
 rw[decide_eq_true ⟨by exact Int.natCast_nonneg _,by exact Int.ofNat_le.mpr ‹_›,by decide⟩,Int.toNat_natCast,Int.one_mul]
 show _=some (AV.d (D.int ((2 ^ j:Nat):Int)),σ)
 rw[Int.natCast_pow]
 rfl
noncomputable def eF:List Stmt:=Hw (sub (Ft (st 81)) 4)
section
variable {n k d:Nat} {s:GS} {rc tc:Ad} {r:List Ad} {li jv g h:Option AV}
theorem Od(hn:n≤8):∀(js:List Nat) (a:Nat) (jv:Option AV),(∀j∈js,j < n)→∃jv',Fr (d+3) sF (Bh (sub eF 4)) (B1 (sub eF 4)) (Ac js) ⟨A1 k li jv g (some (num a)),mk n s rc tc r⟩ .next
   ⟨A1 k li jv' g (some (num (js.foldl (λh j=>h ||| s.leads j ||| 2 ^ j) a))),mk n s rc tc r⟩
 | [],a,jv,_=>⟨jv,.nil⟩
 | j::js,a,jv,hj=>by
  have hjn:=hj j mem_cons_self
  obtain⟨jv',ih⟩:=Od hn js (a ||| s.leads j ||| 2 ^ j) (some (num j)) λx hx=>hj x (mem_cons_of_mem _ hx)
  refine⟨jv',.next (σ₁:=⟨A1 k li (some (num j)) g (some (num a)),mk n s rc tc r⟩) rfl (Azg (Azi (Azn (Azn (Azf rfl) (Azs (by exact Dc rfl) (Azf rfl) (Azf rfl) (A2 (c:=.m (Al n s.leads)) rfl (Fs _ hjn) ?_)) (H9 _ _ _)) (Azn Azo (Azf rfl) (Ahq j (by lia) _)) (H9 _ _ _)) rfl) Azm) ih⟩
  show(Al n s.leads).length≤1000
  rw[Ce];exact le_trans ‹_› (by decide)
noncomputable def GS.put(s:GS)(js:List Nat)(held:Nat):GS:=⟨s.pile,s.bounds,λx=>if x∈js then -2 else s.seen x,s.groups,λx=>if x∈js then held else s.leads x⟩
theorem R9(hn:n≤8):∀(js:List Nat) (s:GS) (jv:Option AV),(∀j∈js,j < n)→∃jv',Fr (d+3) sF (Bh (sub eF 5)) (B1 (sub eF 5)) (Ac js) ⟨A1 k li jv g (some (num held)),mk n s rc tc r⟩ .next
   ⟨A1 k li jv' g (some (num held)),mk n (s.put js held) rc tc r⟩
 | [],s,jv,_=>by
  have:s.put [] held=s:=by rfl
  rw[this]
  exact⟨jv,.nil⟩
 | j::js,s,jv,hj=>by
  have hjn:=hj j mem_cons_self
  let s1:GS:=⟨s.pile,s.bounds,s.seen,s.groups,Ho s.leads j held⟩
  let s2:GS:=⟨s.pile,s.bounds,Ho s.seen j (-2),s.groups,Ho s.leads j held⟩
  obtain⟨jv',ih⟩:=R9 hn js s2 (some (num j)) λx hx=>hj x (mem_cons_of_mem _ hx)
  have e:s2.put js held=s.put (j::js) held:=by
   unfold GS.put
   congr 1
   ·funext x
    show(if x∈js then(-2:Int)else Ho s.seen j (-2) x)=_
    by_cases h1:x∈js
    ·simp[h1]
    ·by_cases h2:x=j
     ·subst h2;simp[h1,C1]
     ·simp[h1,h2,Bd]
   ·funext x
    show(if x∈js then held else Ho s.leads j held x)=_
    by_cases h1:x∈js
    ·simp[h1]
    ·by_cases h2:x=j
     ·subst h2;simp[h1,C1]
     ·simp[h1,h2,Bd]
  rw[e]at ih
  refine⟨jv',.next (σ₁:=⟨A1 k li (some (num j)) g (some (num held)),mk n s rc tc r⟩) rfl (Azg (σ₁:=⟨A1 k li (some (num j)) g (some (num held)),mk n s1 rc tc r⟩) ?_ (Azg (σ₁:=⟨A1 k li (some (num j)) g (some (num held)),mk n s2 rc tc r⟩) ?_ Azm)) ih⟩
  ·show Sx _ _ _ _ _ ⟨_,.m _ :: .m _ :: .m _ :: .m _ :: .m (Al n (Ho s.leads j held))::_⟩
   rw[←I6 n j s.leads held]
   exact Sx.setitem (σ₁:=⟨A1 k li (some (num j)) g (some (num held)),mk n s rc tc r⟩) (σ₂:=⟨A1 k li (some (num j)) g (some (num held)),mk n s rc tc r⟩) (σ₃:=⟨A1 k li (some (num j)) g (some (num held)),mk n s rc tc r⟩) (c:=4) (xs:=Al n s.leads) (by exact nsi rfl)
    (Azf rfl) (Azf rfl) (Azf rfl) rfl (by rw[Ce];exact E0 hjn (by lia))
  ·show Sx _ _ _ _ _ ⟨_,.m _ :: .m _ :: .m (Cb n (Ho s.seen j (-2))) :: .m _ :: .m _::_⟩
   rw[←Oo n j s.seen (-2)]
   exact Sx.setitem (σ₁:=⟨A1 k li (some (num j)) g (some (num held)),mk n s1 rc tc r⟩) (σ₂:=⟨A1 k li (some (num j)) g (some (num held)),mk n s1 rc tc r⟩) (σ₃:=⟨A1 k li (some (num j)) g (some (num held)),mk n s1 rc tc r⟩) (c:=2) (xs:=Cb n s.seen) (by exact nsi rfl)
    Ev.neg (Azf rfl) (Azf rfl) rfl (by rw[Cf];exact E0 hjn (by lia))
theorem Aak(hk:k < n)(hn:n≤8){p:Nat}(hp:s.seen k=(p:Int))(hb:s.bounds.length≤8):∃r',Tv (d+3) sF (Dn (sub (Ft (st 81)) 4)) ⟨A1 k li jv g h,mk n s rc tc r⟩ (decide (s.bounds.getLast? = some p)) ⟨A1 k li jv g h,mk n s rc tc r'⟩:=by
 have hl:(Cb n s.seen).length≤1000:=by rw[Cf];lia
 let x1:Ad:=.m ((Ac s.bounds).drop ((Ac s.bounds).length - 1))
 let x2:Ad:=.m [.int (s.seen k)]
 refine⟨r++[x1]++[x2],?_⟩
 have hcut:cut (.cell 1) (some (-1)) none ⟨A1 k li jv g h,mk n s rc tc r⟩=some (.cell (r.length+7),⟨A1 k li jv g h,mk n s rc tc (r++[x1])⟩):=by
  rw[Fn (c:=.m (Ac s.bounds)) rfl (by show(Ac s.bounds).length≤1000;rw[Ah];exact le_trans ‹_› (by decide))]
  show some (_,(⟨_,mk n s rc tc r++[.m (pick (Ac s.bounds) _ _)]⟩:St))=_
  rw[Y8]
  rfl
 have g1:(mk n s rc tc (r++[x1]++[x2]))[r.length+7]? = some x1:=by
  show(r++[x1]++[x2])[r.length]? = _
  simp
 have g2:(mk n s rc tc (r++[x1]++[x2]))[(r++[x1]).length+7]? = some x2:=by
  show(r++[x1]++[x2])[(r++[x1]).length]? = _
  simp
 refine Azt (Azr (σ₁:=⟨A1 k li jv g h,mk n s rc tc (r++[x1])⟩) (y:=.cell ((r++[x1]).length+7)) (Ev.slice (Azf rfl) (.yes Ev.neg) .no hcut) (Ev.list (Azh (Azs (by exact Dc rfl) (Azf rfl) (Azf rfl) (A2 (c:=.m (Cb n s.seen)) rfl (Hg _ hk) hl)) Azj) rfl rfl) ?_)
 refine(Ad0 (By g1) (By g2)).trans ?_
 show F8 (K6 4) ((Ac s.bounds).drop ((Ac s.bounds).length - 1)) [.int (s.seen k)]=_
 cases hbd:s.bounds.getLast? with
 | none=>
  rw[getLast?_eq_none_iff]at hbd
  rw[hbd];rfl
 | some b=>
  obtain⟨l,hl⟩:=getLast?_eq_some_iff.mp hbd
  rw[hl]
  have e:(Ac (l++[b])).drop ((Ac (l++[b])).length - 1)=[.int (b:Int)]:=by
   simp[Ac]
  rw[e,hp]
  show some (((b:Int)==(p:Int))&&true)=_
  rw[Bool.and_true]
  congr 1
  by_cases hbp:b=p
  ·simp[hbp]
  ·simp[hbp]
   lia
end
section
variable {n k d:Nat} {s:GS} {rc tc:Ad} {r:List Ad} {li jv g h:Option AV}
theorem Y2(l:List Nat)(p:Nat):(Ac l).drop p=Ac (l.drop p):=by delta Ac;rw[map_drop]
theorem Xg(l:List Nat)(p:Nat):(Ac l).take p=Ac (l.take p):=by delta Ac;rw[map_take]
theorem D3:(r++a::t).set r.length b=r++b::t:=by
 rw[set_append_right _ _ (le_refl _),sub_self];rfl
theorem Be:(r++a::t)[r.length]? = some a:=by
 rw[List.getElem?_append_right (le_refl _),sub_self];rfl
theorem Hq(ht:toD σ.cel v=some (x,cel))(h:cel[k]? = some (.m xs))(hf:xs.length≤1000):meth (.cell k) "append" [v] σ=some (.d .none,⟨σ.loc,cel.set k (.m (xs++[x]))⟩):=by
 exact Sq ht h (At (by lia))
theorem Y5(hk:k < n)(hn:n≤8){p:Nat}(hp:s.seen k=(p:Int))(hpl:p≤s.pile.length)(hpile:s.pile.length≤8)(hb:s.bounds.length≤8)(hg:s.groups.length≤8)(hlast:s.bounds.getLast? = some p)(hlt:∀x∈s.pile,x < n):
  ∃jv' g' h' r',Xs (d+3) sF eF ⟨A1 k li jv g h,mk n s rc tc r⟩ .next ⟨A1 k li jv' g' h',mk n (s.close p) rc tc r'⟩:=by
 have hl:(Cb n s.seen).length≤1000:=by rw[Cf];omega
 have hseen:∀(s':GS) (r':List Ad) (g h:Option AV),s'.seen=s.seen→item (.cell 2) (num k) (mk n s' rc tc r')=some (num p):=λs' r' _ _ e=>by
  rw[A2 (c:=.m (Cb n s'.seen)) rfl (Hg _ hk) (by show(Cb n s'.seen).length≤1000;rw[Cf];omega),e,hp]
 let s1:GS:=⟨s.pile,s.bounds.dropLast,s.seen,s.groups,s.leads⟩
 let s2:GS:=⟨s.pile.take p,s.bounds.dropLast,s.seen,s.groups,s.leads⟩
 let G:=s.pile.drop p
 let A:Ad:=.m (Ac G)
 let A':Ad:=.f (Ac G)
 let B:Ad:=.m (Ac (s.pile.take p))
 have hG:∀j∈G,j < n:=λj hj=>hlt j (drop_subset _ _ hj)
 have hpop:meth (.cell 1) "pop" [] ⟨A1 k li jv g h,mk n s rc tc r⟩=some (num p,⟨A1 k li jv g h,mk n s1 rc tc r⟩):=by
  have e1:(Ac s.bounds).getLast? = some (.int (p:Int)):=by
   delta Ac
   rw[getLast?_map,hlast];rfl
  have e2:(Ac s.bounds).dropLast=Ac s.bounds.dropLast:=by delta Ac;rw[map_dropLast]
  refine(Aal (xs:=Ac s.bounds) rfl e1 (At (by rw[Ah];exact le_trans ‹_› (by decide)))).trans ?_
  rw[e2]
  rfl
 have hc1:cut (.cell 0) (some (p:Int)) none ⟨A1 k li jv g h,mk n s1 rc tc r⟩=some (.cell (r.length+7),⟨A1 k li jv g h,mk n s1 rc tc (r++[A])⟩):=by
  rw[Fn (c:=.m (Ac s.pile)) rfl (by show(Ac s.pile).length≤1000;rw[Ah];omega)]
  show some (_,(⟨_,mk n s1 rc tc r++[.m (pick (Ac s.pile) _ _)]⟩:St))=_
  rw[Nn _ _ (by rw[Ah];exact hpl),Y2]
  rfl
 have hc2:cut (.cell 0) none (some (p:Int)) ⟨A1 k li jv (some (.cell (r.length+7))) h,mk n s1 rc tc (r++[A])⟩=some (.cell ((r++[A]).length+7),⟨A1 k li jv (some (.cell (r.length+7))) h,mk n s1 rc tc (r++[A]++[B])⟩):=by
  rw[Fn (c:=.m (Ac s.pile)) rfl (by show(Ac s.pile).length≤1000;rw[Ah];omega)]
  show some (_,(⟨_,mk n s1 rc tc (r++[A])++[.m (pick (Ac s.pile) _ _)]⟩:St))=_
  rw[Ob _ _ (by rw[Ah];exact hpl),Xg]
  rfl
 have hg2:(mk n s1 rc tc (r++[A]++[B]))[(r++[A]).length+7]? = some B:=by
  exact Be
 have frz:∀(s':GS) (C:Ad),C.items=Ac G→Ai (mk n s' rc tc (r++C::[B])) (.cell (r.length+7))=some (Ac G,mk n s' rc tc (r++A'::[B])):=by
  intro s' C hC
  show(match (r++C::[B])[r.length]? with
   | some c=>some (c.items,(mk n s' rc tc (r++C::[B])).set (r.length+7) (.f c.items))
   | none=>none)=_
  rw[Be]
  simp only[hC]
  show some (_,mk n s' rc tc ((r++C::[B]).set r.length (.f (Ac G))))=_
  rw[D3]
 obtain⟨j1,w1⟩:=Od (d:=d) (k:=k) (li:=li) (g:=some (.cell (r.length+7))) (s:=s2) (rc:=rc) (tc:=tc) (r:=r++A'::[B]) hn G 0 jv hG
 obtain⟨j2,w2⟩:=R9 (d:=d) (k:=k) (li:=li) (g:=some (.cell (r.length+7))) (rc:=rc) (tc:=tc) (r:=r++A'::[B]) hn (held:=Di s.leads G) G s2 j1 hG
 refine⟨j2,some (.cell (r.length+7)),some (num (Di s.leads G)),r++A'::[B],?_⟩
 have hend:meth (.cell 3) "append" [.cell (r.length+7)] ⟨A1 k li j2 (some (.cell (r.length+7))) (some (num (Di s.leads G))),mk n (s2.put G (Di s.leads G)) rc tc (r++A'::[B])⟩=some (.d .none,⟨A1 k li j2 (some (.cell (r.length+7))) (some (num (Di s.leads G))),mk n (s.close p) rc tc (r++A'::[B])⟩):=by
  have et:toD (mk n (s2.put G (Di s.leads G)) rc tc (r++A'::[B])) (.cell (r.length+7))=some (.lst (Ac G),mk n (s2.put G (Di s.leads G)) rc tc (r++A'::[B])):=by
   show(match (r++A'::[B])[r.length]? with
    | some c=>some (D.lst c.items,(mk n (s2.put G (Di s.leads G)) rc tc (r++A'::[B])).set (r.length+7) (.f c.items))
    | none=>none)=_
   rw[Be]
   show some (_,mk n (s2.put G (Di s.leads G)) rc tc ((r++A'::[B]).set r.length (.f (Ac G))))=_
   rw[D3]
   rfl
  rw[Hq (xs:=Bv s.groups) et rfl (by delta Bv;rw[length_map];omega)]
  show some (_,(⟨_,Ad.m _::Ad.m _::Ad.m _::Ad.m (Bv s.groups++[.lst (Ac G)])::_⟩:St))=some (_,(⟨_,Ad.m _::Ad.m _::Ad.m _::Ad.m (Bv (s.groups++[G]))::_⟩:St))
  unfold Bv
  rw[map_append]
  rfl
 refine Azg (σ₁:=⟨A1 k li jv g h,mk n s1 rc tc r⟩) (Sx.exprInt (Ev.meth rfl (by exact Mq rfl) (Azf rfl) Azj hpop)) ?_
 refine Azg (σ₁:=⟨A1 k li jv (some (.cell (r.length+7))) h,mk n s1 rc tc (r++[A])⟩) (Azi (Ev.slice (Azf rfl) (.yes (Azs (by exact Dc rfl) (Azf rfl) (Azf rfl) (hseen s1 r none none rfl))) .no hc1) rfl) ?_
 refine Azg (σ₁:=⟨A1 k li jv (some (.cell (r.length+7))) h,mk n s2 rc tc (r++[A]++[B])⟩) (Sx.setall (i:=0) (xs:=Ac s.pile) (Ev.slice (Azf rfl) .no (.yes (Azs (by exact Dc rfl) (Azf rfl) (Azf rfl) (hseen s1 (r++[A]) none none rfl))) hc2) (Azf rfl) hg2 rfl ?_) ?_
 ·refine At ?_
  show(Ac s.pile).length+(Ac (s.pile.take p)).length≤_
  rw[Ah,Ah,length_take];omega
 refine Azg (σ₁:=⟨A1 k li jv (some (.cell (r.length+7))) (some (num 0)),mk n s2 rc tc (r++A::[B])⟩) (Azi (e:=Dn (sub eF 3)) (v:=num 0) (σ₁:=⟨A1 k li jv (some (.cell (r.length+7))) h,mk n s2 rc tc (r++A::[B])⟩) ?_ rfl) ?_
 ·rw[append_assoc]
  exact Azo
 refine Azg (Sx.for (by exact nfa rfl) (Azf rfl) (frz s2 A rfl) w1) ?_
 refine Azg (Sx.for (by exact nfa rfl) (Azf rfl) (frz s2 A' rfl) w2) ?_
 exact Azg (Azu (Ev.meth rfl (by exact Mq rfl) (Azf rfl) (Azh (Azf rfl) Azj) hend)) Azm
end
noncomputable def Acv(R:List Nat)(E:List (Nat×Nat))(k:Nat):List (Nat×Nat):=E.filter (·.1==R[k]?.getD 8)
noncomputable def Ca(R:List Nat)(E:List (Nat×Nat))(k:Nat):List Nat:=(Acv R E k).map λp=>R.idxOf p.2
structure M8(R:List Nat)(E:List (Nat×Nat)):Prop where
 mem:∀p∈E,p.1∈R∧p.2∈R
 len:E.length≤1000
section
variable {R:List Nat} {E:List (Nat×Nat)} {n k f:Nat} {op:List Nat} {s0:GS} {rc:Ad}
theorem Akp(hR:Do R)(hE:M8 R E):∀x,∀y∈Ca R E x,y < R.length:=by
 intro x y hy
 refine Aj (mem_map.mp hy) λp hp z=>?_
 subst z
 exact idxOf_lt_length_iff.mpr (hE.mem p (mem_filter.mp hp).1).2
def SOk(R:List Nat)(E:List (Nat×Nat))(rc:Ad)(f:Nat):Prop:=∀(k:Nat) (op:List Nat) (s:GS) (tc:Ad) (r:List Ad),Mj R.length (Ca R E) op s→k < R.length→s.seen k = -1→(∀x∈s.pile,Ej (Ca R E) x k)→(∀x∈op,x∈s.pile)→Gs R.length s≤f→tc.items=E.map Bc→
 ∃s' tc' r',Cl (f+4) (.ref 371) [num k,.cell 5,.hdr 6,.cell 0,.cell 1,.cell 2,.cell 3,.cell 4] (mk R.length s rc tc r) (.d .none) (mk R.length s' rc tc' r')∧tc'.items=E.map Bc∧Ext s s'∧Mj R.length (Ca R E) op s'∧s'.seen k≠ -1∧(s'.seen k = -2∨∃i,s'.pile[i]? = some k∧s.pile.length≤i)
theorem Jm(hR:Do R)(hE:M8 R E)(hrc:rc.items=Ap (R.map lit))(ih:SOk R E rc f)(hk:k < R.length)(hw0:s0.seen k = -1)(hwh:Gs R.length s0≤f+1)(ho:∀x∈op,x∈s0.pile):
  ∀(Q:List (Nat×Nat)) (P:List Nat) (s:GS) (tc:Ad) (r:List Ad) (li jv:Option AV),LI R.length (Ca R E) op s0 k P s→P++Q.map (λp=>R.idxOf p.2)=Ca R E k→(∀p∈Q,p.2∈R)→tc.items=E.map Bc→
  ∃s' tc' r' li' jv',Fr (f+1+3) sF lF (B1 (sub (Ft (st 81)) 3)) (Q.map λp=>.str (lit p.2)) ⟨A1 k li jv none none,mk R.length s rc tc r⟩ .next ⟨A1 k li' jv' none none,mk R.length s' rc tc' r'⟩∧LI R.length (Ca R E) op s0 k (Ca R E k) s'∧tc'.items=E.map Bc
 | [],P,s,tc,r,li,jv,v,hP,_,htc=>by
  rw[map_nil,append_nil]at hP
  exact⟨s,tc,r,li,jv,.nil,hP▸v,htc⟩
 | (a,b)::Q,P,s,tc,r,li,jv,v,hP,hQ,htc=>by
  have hn:=hR.len
  have hb:b∈R:=hQ (a,b) mem_cons_self
  have hj:R.idxOf b < R.length:=idxOf_lt_length_iff.mpr hb
  have hja:R.idxOf b∈Ca R E k:=by rw[←hP];simp
  have hP':(P++[R.idxOf b])++Q.map (λp=>R.idxOf p.2)=Ca R E k:=by rw[←hP];simp
  have hQ':∀p∈Q,p.2∈R:=λp hp=>hQ p (mem_cons_of_mem _ hp)
  have hmono:∀x,s0.seen x≠ -1→s.seen x≠ -1:=λx hx=>by rw[(v.seen x hx).1];exact hx
  have main:∃s1 tc1 r1,Xs (f+1+3) sF (lF.drop 1) ⟨A1 k (some (A8 b)) (some (num (R.idxOf b))) none none,mk R.length s rc tc r⟩ .next ⟨A1 k (some (A8 b)) (some (num (R.idxOf b))) none none,mk R.length s1 rc tc1 r1⟩∧LI R.length (Ca R E) op s0 k (P++[R.idxOf b]) s1∧tc1.items=E.map Bc:=by
   rcases v.inv.seenr _ hj with h | h | ⟨c,hc⟩
   ·have hwl:Gs R.length s≤f:=by
     have:=Xw (n:=R.length) hmono hk hw0 (by rw[v.seenk];simp)
     lia
    refine I3 (ih (R.idxOf b) (k::op) s tc r v.inv hj h (Aar v hja) (Awq v ho) hwl htc) λs1 tc1 r1 hcl ht1 he hi hs1 hs2=>?_
    refine⟨s1.lead k (R.idxOf b),tc1,r1,S8 hk hj hn h hcl,O6 (Af8 v h he hi) hw0 hja ?_,ht1⟩
    rcases hs2 with h2 | ⟨i,hi1,hi2⟩
    ·exact .inl h2
    ·exact .inr ⟨i,hi1,λb hb=>by have:=v.inv.blt b (he.bounds b hb);exact le_trans (le_of_lt ‹_›) ‹_›⟩
   ·exact⟨_,tc,r,Ym hk hj hn h,O6 v hw0 hja (.inl h),htc⟩
   ·refine xe (Xf (d:=f+1) (k:=k) (li:=some (A8 b)) (g:=none) (h:=none) (rc:=rc) (tc:=tc) (r:=r) hk hj hn (v.inv.seenp _ _ hc) v.inv.bsort (le_trans v.inv.blen hn)) λr1 hx=>?_
    exact⟨_,tc,r1,hx,O6 (Alz v hja hc) hw0 hja (.inr ⟨c,hc,λb hb=>by simpa using (mem_filter.mp hb).2⟩),htc⟩
  refine Au main λs1 tc1 r1 hx v1 ht1=>?_
  clear main
  refine S2 (Jm hR hE hrc ih hk hw0 hwh ho Q _ s1 tc1 r1 (some (A8 b)) (some (num (R.idxOf b))) v1 hP' hQ' ht1) λs' tc' r' li' jv' hf v' ht'=>?_
  exact⟨s',tc',r',li',jv',.next (σ₁:=⟨A1 k (some (A8 b)) jv none none,mk R.length s rc tc r⟩) rfl (Xk hR hb hrc hx) hf,v',ht'⟩
theorem Rb(hR:Do R)(hE:M8 R E)(hrc:rc.items=Ap (R.map lit))(ih:SOk R E rc f):SOk R E rc (f+1):=by
 intro k op s tc r v hk hw hr ho hwh htc
 have hn:=hR.len
 have v0:=Ahn v hk hw hr ho
 have hkR:R[k]?.getD 8=R[k]:=by rw[List.getElem?_eq_getElem hk];rfl
 have hk8:R[k] < 8:=hR.lt _ (getElem_mem hk)
 have hga:=(Adr (i:=R[k]) hk8 (E:=E) (λp hp=>⟨hR.lt _ (hE.mem p hp).1,hR.lt _ (hE.mem p hp).2⟩) hE.len htc).lift1h (ds:=[.str (Txt.upper (lit R[k]))]) (b:=mk R.length (s.push k) rc tc r) (i:=6) rfl
 let L:List D:=(Acv R E k).map λp=>.str (lit p.2)
 have hga':Cl (f+1+3) (.ref 236) [.hdr 6,upS R[k]] (mk R.length (s.push k) rc tc r) (.cell (r.length+7)) (mk R.length (s.push k) rc (.f (E.map Bc)) (r++[.m L])):=by
  have e:(E.filter (·.1==R[k])).map (λp=>D.str (lit p.2))=L:=by
   show _=(E.filter (·.1==R[k]?.getD 8)).map _
   rw[hkR]
  rw[e]at hga
  exact hga.deeper (by exact le_add_left _ _)
 refine S2 (Jm hR hE hrc ih hk hw hwh ho (Acv R E k) [] (s.push k) (.f (E.map Bc)) (r++[.f L]) none none v0 rfl (λp hp=>(hE.mem p (mem_filter.mp hp).1).2) rfl) λs1 tc1 r1 li jv hfr v1 ht1=>?_
 have hit:Ai (mk R.length (s.push k) rc (.f (E.map Bc)) (r++[.m L])) (.cell (r.length+7))=some (L,mk R.length (s.push k) rc (.f (E.map Bc)) (r++[.f L])):=by
  show(match (r++[Ad.m L])[r.length]? with
   | some c=>some (c.items,(mk R.length (s.push k) rc (.f (E.map Bc)) (r++[Ad.m L])).set (r.length+7) (.f c.items))
   | none=>none)=_
  rw[Be]
  show some (L,mk R.length (s.push k) rc (.f (E.map Bc)) ((r++[Ad.m L]).set r.length (Ad.f L)))=_
  rw[D3]
 have hrow:item (.cell 5) (num k) (mk R.length (s.push k) rc tc r)=some (A8 R[k]):=by
  refine A2 (c:=rc) rfl ?_ ?_
  ·rw[hrc];unfold Ap;simp[hk]
  ·rw[hrc,A4,length_map];exact le_trans ‹_› (by decide)
 have hfor:Sx (f+1+3) sF (sub (Ft (st 81)) 3) ⟨A1 k none none none none,mk R.length (s.push k) rc tc r⟩ .next ⟨A1 k li jv none none,mk R.length s1 rc tc1 r1⟩:=
  Sx.for (by exact nfc) (Ev.hmeth rfl rfl (Azf rfl) (Azh (Ev.meth rfl (by exact Mq rfl) (Azs (by exact Dc rfl) (Azf rfl) (Azf rfl) hrow) Azj (Ang hk8 _)) Azj) hga') hit hfr
 have w1:=v1.inv
 refine xe (Aak (d:=f+1) (k:=k) (li:=li) (jv:=jv) (g:=none) (h:=none) (rc:=rc) (tc:=tc1) (r:=r1) hk hn v1.seenk (le_trans w1.blen hn)) λr2 ht=>?_
 have hpre:∀{fl:Fl} {σ':St},Xs (f+1+3) sF ((Ft (st 81)).drop 4) ⟨A1 k li jv none none,mk R.length s1 rc tc1 r1⟩ fl σ'→Xs (f+1+3) sF (Ft (st 81)) ⟨A1 k none none none none,mk R.length s rc tc r⟩ fl σ':=λh=>
  Pc (d:=f+3) hk hn (le_trans v.plen hn) (le_trans v.blen hn) (Azg hfor h)
 by_cases hl:s1.bounds.getLast? = some s.pile.length
 ·rw[decide_eq_true hl]at ht
  refine Jp (Y5 (d:=f+1) (k:=k) (li:=li) (jv:=jv) (g:=none) (h:=none) (rc:=rc) (tc:=tc1) (r:=r2) hk hn v1.seenk (le_of_lt (Cm v1.at)) (le_trans w1.plen hn) (le_trans w1.blen hn) (le_trans w1.glen hn) hl w1.lt) λjv' g' h' r3 hx=>?_
  refine Pb (Adl v (Akp hR hE) v1 ho hl) λc1 c2 c3=>?_
  refine⟨_,tc1,r3,?_,ht1,c1,c2,by rw[c3];decide,.inl c3⟩
  exact Cl.next (a:=371) (loc:=A1 k none none none none) rfl rfl rfl (hpre (Azg (Azq (c:=true) ht hx) Azm))
 ·rw[decide_eq_false hl]at ht
  refine Uw (Aho v1 hl) λc1 c2 c3 c4=>?_
  refine⟨s1,tc1,r2,?_,ht1,c1,c2,c3,.inr c4⟩
  exact Cl.next (a:=371) (loc:=A1 k none none none none) rfl rfl rfl (hpre (Azg (Azq (c:=false) ht Azm) Azm))
theorem Lz(hR:Do R)(hE:M8 R E)(hrc:rc.items=Ap (R.map lit)):∀f,SOk R E rc f
 | 0=>by
  intro k op s tc r v hk hw hr ho hwh htc
  exfalso
  have:k∈(List.range R.length).filter λx=>s.seen x == -1:=mem_filter.mpr ⟨mem_range.mpr hk,by simpa using hw⟩
  have h2:=length_pos_iff.mpr (ne_nil_of_mem this)
  unfold Gs at hwh
  lia
 | f+1=>Rb hR hE hrc (Lz hR hE hrc f)
end
end
noncomputable section
noncomputable abbrev Rl:=Nat×Nat×Nat
def C2(r:Rl):Prop:=r.1 < 8∧r.2.1 < 8∧r.2.2 < 8
noncomputable def Tr(v l:Nat):Bool:=(tm l).testBit v
theorem Uf(h:(List.range 8).all P=true)(hi:i < 8):P i=true:=all_eq_true.mp h i (mem_range.mpr hi)
theorem K9(h:(List.range 16).all P=true)(hi:i < 16):P i=true:=all_eq_true.mp h i (mem_range.mpr hi)
theorem Aer(hi:i < 8)(hv:v < 16):Tr v (Da i) = !Tr v i:=by
 have h:(List.range 8).all (λi=>(List.range 16).all λv=>Tr v (Da i) == !Tr v i)=true:=by decide +kernel
 exact eq_of_beq (K9 (Uf h hi) hv)
theorem Wb{i:Nat}(hi:i < 8):Da (Da i)=i:=by revert i;decide
theorem Aga(hx:x≤65535)(hv:v < 16):(65535 - x).testBit v = !x.testBit v:=by
 have:=testBit_two_pow_sub_succ (n:=16) (x:=x) (by exact succ_le_succ ‹_›) v
 rw[show 2 ^ 16 - (x+1)=65535 - x by simp]at this
 rw[this,decide_eq_true hv,Bool.true_and]
theorem Axl:(!a||b)=true↔(a=true→b=true):=by revert a b;decide
theorem K3(hr:C2 r)(hv:v < 16):(E5 r).testBit v=true↔∀p∈As r,Tr v p.1=true→Tr v p.2=true:=by
 have h:(List.range 8).all (λi=>(List.range 8).all λo=>(List.range 8).all λj=>(List.range 16).all λv=>(E5 (i,o,j)).testBit v==(As (i,o,j)).all λp=>!Tr v p.1||Tr v p.2)=true:=by decide +kernel
 rw[show(E5 r).testBit v=_ from eq_of_beq (K9 (Uf (Uf (Uf h hr.1) hr.2.1) hr.2.2) hv),all_eq_true]
 exact forall_congr' λp=>forall_congr' λ_=>Axl
noncomputable def Ep(l:List Nat)(a:Nat):Nat:=l.foldl (λa m=>a &&& m) a
theorem H7(v:Nat):∀(l:List Nat) (a:Nat),(Ep l a).testBit v=true↔a.testBit v=true∧∀m∈l,m.testBit v=true
 | [],a=>by simp[Ep]
 | m::l,a=>by
  have h:=H7 v l (a &&& m)
  show(Ep l (a &&& m)).testBit v=true↔_
  rw[h]
  simp only[testBit_and,Bool.and_eq_true,mem_cons,forall_eq_or_imp]
  constructor
  ·intro w
   refine xa w λw1 h3=>?_
   clear w
   obtain⟨h1,h2⟩:=w1
   exact⟨h1,h2,h3⟩
  ·intro w
   refine Pb w λh1 h2 h3=>?_
   clear w
   exact⟨⟨h1,h2⟩,h3⟩
theorem N4:∀(l:List Nat) (a:Nat),Ep l a≤a
 | [],a=>le_refl _
 | m::l,a=>le_trans (N4 l (a &&& m)) and_le_left
theorem Ql:(65535:Nat).testBit v=decide (v < 16):=by
 have:=testBit_two_pow_sub_one 16 v
 exact this
theorem I1(hx:x≤65535)(h:∀v,v < 16→x.testBit v=false):x=0:=by
 refine eq_of_testBit_eq λv=>?_
 rw[zero_testBit]
 by_cases hv:v < 16
 ·exact h v hv
 ·exact testBit_lt_two_pow (lt_of_lt_of_le (show x < 2 ^ 16 by lia) (pow_le_pow_right (by decide) (by exact not_lt.mp ‹_›)))
noncomputable def B4(rs:List Rl):Nat:=Ep (rs.map E5) 65535
noncomputable def B2(rs:List Rl):List (Nat×Nat):=rs.flatMap As
theorem Ac8(hr:∀r∈rs,C2 r)(hv:v < 16):(B4 rs).testBit v=true↔∀p∈B2 rs,Tr v p.1=true→Tr v p.2=true:=by
 unfold B4
 rw[H7,Ql,decide_eq_true hv]
 constructor
 ·intro w p hp
  refine xa w λ_ h=>?_
  clear w
  refine Aj (mem_flatMap.mp hp) λr h1 h2=>?_
  exact(K3 (hr r h1) hv).mp (h _ (mem_map.mpr ⟨r,h1,rfl⟩)) p h2
 ·intro h
  refine⟨rfl,λm hm=>?_⟩
  refine Aj (mem_map.mp hm) λr h1 z=>?_
  subst z
  exact(K3 (hr r h1) hv).mpr λp hp=>h p (mem_flatMap.mpr ⟨r,h1,hp⟩)
theorem U2(rs:List Rl):B4 rs≤65535:=N4 _ _
theorem Yp:B4 rs=0↔¬∃v,v < 16∧(B4 rs).testBit v=true:=by
 constructor
 ·intro h w
  refine Aj w λv _ h2=>?_
  clear w
  rw[h]at h2;simp at h2
 ·intro h
  refine I1 (U2 rs) λv hv=>?_
  cases e:(B4 rs).testBit v with
  | false=>rfl
  | true=>exact absurd ⟨v,hv,e⟩ h
theorem Zb:(List.range 8).all (λi=>(List.range 8).all λo=>(List.range 8).all λj=>(As (i,o,j)).all λp=>(As (i,o,j)).contains (Da p.2,Da p.1)&&(decide (p.1 < 8)&&decide (p.2 < 8)))=true:=by decide +kernel
theorem N8(hr:C2 r)(hp:p∈As r):(Da p.2,Da p.1)∈As r∧p.1 < 8∧p.2 < 8:=by
 have h:=all_eq_true.mp (Uf (Uf (Uf Zb hr.1) hr.2.1) hr.2.2) p hp
 rw[Bool.and_eq_true,Bool.and_eq_true,decide_eq_true_eq,decide_eq_true_eq,contains_iff_mem]at h
 exact h
theorem To(hr:∀r∈rs,C2 r)(hp:p∈B2 rs):(Da p.2,Da p.1)∈B2 rs:=
 Aj (mem_flatMap.mp hp) λr h1 h2=>mem_flatMap.mpr ⟨r,h1,(N8 (hr r h1) h2).1⟩
theorem Qg(hr:∀r∈rs,C2 r)(hp:p∈B2 rs):p.1 < 8∧p.2 < 8:=
 Aj (mem_flatMap.mp hp) λr h1 h2=>(N8 (hr r h1) h2).2
noncomputable def Cj(m:Nat):List Nat:=(List.range 4).filter λi=>m.testBit i
noncomputable def Ab(m:Nat):List Nat:=Cj m++(Cj m).map (· + 4)
noncomputable def Afp(l:List Nat)(y r:Nat):Bool:=decide (r≤l.length)&&(List.range l.length).all λi=>decide ((lit (l[i]?.getD 8)).cps.toList < (lit y).cps.toList)==decide (i < r)
theorem Adb(h:Afp l y r=true):Plc (l.map lit) (lit y) r:=by
 delta Afp at h
 rw[Bool.and_eq_true,decide_eq_true_eq]at h
 refine⟨by simpa using h.1,λi x hx=>?_⟩
 rw[getElem?_map]at hx
 refine Ch hx λa h1 z=>?_
 clear hx
 subst z
 have:=all_eq_true.mp h.2 i (mem_range.mpr (Cm h1))
 rw[h1]at this
 exact eq_of_beq this
theorem M4(h:i∈Cj m):i < 4:=mem_range.mp (mem_filter.mp h).1
theorem Ai6(m:Nat):(Cj m).Nodup:=nodup_iff_pairwise_ne.mpr ((nodup_iff_pairwise_ne.mp nodup_range).filter _)
theorem Agr(hm:m < 16):∀l∈Ab m,Plc ((Ab m).map lit) (lit l) ((Ab m).idxOf l):=by
 have h:(List.range 16).all (λm=>(Ab m).all λl=>Afp (Ab m) l ((Ab m).idxOf l))=true:=by decide +kernel
 intro l hl
 exact Adb (all_eq_true.mp (K9 h hm) l hl)
theorem Pj(hm:m < 16):Do (Ab m):=by
 refine⟨λl hl=>?_,?_,?_,Agr hm⟩
 ·rcases mem_append.mp hl with h | h
  ·have:=M4 h;exact lt_add_left _ ‹_›
  ·refine Aj (mem_map.mp h) λi h1 z=>?_
   subst z
   have:=M4 h1;lia
 ·have:=length_filter_le (λi=>m.testBit i) (List.range 4)
  rw[length_range]at this
  simp only[Ab,length_append,length_map]
  show(Cj m).length+(Cj m).length≤8
  have:(Cj m).length≤4:=this
  lia
 ·delta Ab
  rw[nodup_append]
  refine⟨Ai6 m,?_,λa ha b hb e=>?_⟩
  ·rw[nodup_iff_pairwise_ne,pairwise_map]
   exact(nodup_iff_pairwise_ne.mp (Ai6 m)).imp λh=>by lia
  ·refine Aj (mem_map.mp hb) λi h1 h2=>?_
   have:=M4 ha
   lia
theorem P0(m:Nat):(Ab m).length=2*(Cj m).length:=by
 simp only[Ab,length_append,length_map];lia
noncomputable def De(R:List Nat)(x:Nat):Nat:=R[x]?.getD 8
theorem O8(h:x < R.length):De R x=R[x]:=by
 delta De;rw[List.getElem?_eq_getElem h];rfl
theorem Ir(h:x < R.length):De R x∈R:=by rw[O8 h];exact getElem_mem h
theorem Hj(h:l∈R):De R (R.idxOf l)=l:=by
 have hl:=idxOf_lt_length_iff.mpr h
 rw[O8 hl]
 exact getElem_idxOf hl
theorem Ajl{l:List Nat}(hn:l.Nodup){i j a:Nat}(h1:l[i]? = some a)(h2:l[j]? = some a):i=j:=by
 obtain⟨a1,b1⟩:=List.getElem?_eq_some_iff.mp h1
 obtain⟨a2,b2⟩:=List.getElem?_eq_some_iff.mp h2
 have:=pairwise_iff_getElem.mp (nodup_iff_pairwise_ne.mp hn)
 rcases lt_trichotomy i j with c | c | c
 ·exact absurd (b1.trans b2.symm) (this _ _ a1 a2 c)
 ·exact c
 ·exact absurd (b2.trans b1.symm) (this _ _ a2 a1 c)
theorem Ue{R:List Nat}(hn:R.Nodup){x:Nat}(h:x < R.length):R.idxOf (De R x)=x:=by
 have h1:=Ir h
 have h2:=idxOf_lt_length_iff.mpr h1
 refine Ajl hn (a:=De R x) ?_ ?_
 ·rw[List.getElem?_eq_getElem h2,getElem_idxOf h2]
 ·rw[List.getElem?_eq_getElem h,O8 h]
theorem Kh(h:x < (Ab m).length):De (Ab m) (A7 (Cj m).length (Ab m).length x)=Da (De (Ab m) x):=by
 have hl:=P0 m
 have a1:∀y,y < (Cj m).length→De (Ab m) y=(Cj m)[y]?.getD 8:=λy hy=>by
  delta De Ab;rw[List.getElem?_append_left hy]
 have a2:∀y,(Cj m).length≤y→y < (Ab m).length→∃i,(Cj m)[y - (Cj m).length]? = some i∧De (Ab m) y=i+4:=λy h1 h2=>by
  have h3:y - (Cj m).length < (Cj m).length:=by omega
  refine⟨_,List.getElem?_eq_getElem h3,?_⟩
  delta De Ab
  rw[List.getElem?_append_right h1,getElem?_map,List.getElem?_eq_getElem h3];rfl
 delta A7
 by_cases c:x < (Cj m).length
 ·rw[mod_eq_of_lt (by lia)]
  refine Aj (a2 (x+(Cj m).length) (by exact le_add_left _ _) (by lia)) λi h1 h2=>?_
  rw[h2,a1 x c]
  rw[add_sub_cancel]at h1
  rw[h1]
  have:=M4 (mem_of_getElem? h1)
  show i+4=(i+4) % 8
  lia
 ·refine Aj (a2 x (by exact not_lt.mp ‹_›) h) λi h1 h2=>?_
  rw[h2,show x+(Cj m).length=(x - (Cj m).length)+(Ab m).length by lia,add_mod_right,mod_eq_of_lt (by exact lt_of_le_of_lt (sub_le _ _) ‹_›),a1 _ (by lia),h1]
  have:=M4 (mem_of_getElem? h1)
  show i=(i+4+4) % 8
  lia
theorem Aws(a:Nat→Bool):∃v,v < 16∧∀i,i < 4→Tr v i=a i:=by
 have key:∀a0 a1 a2 a3:Bool,∃v,v < 16∧Tr v 0=a0∧Tr v 1=a1∧Tr v 2=a2∧Tr v 3=a3:=by
  intro a0 a1 a2 a3
  refine⟨a0.toNat+2*a3.toNat+4*a2.toNat+8*a1.toNat,?_⟩
  rcases a0<;>rcases a1<;>rcases a2<;>rcases a3<;>decide +kernel
 refine O3 (key (a 0) (a 1) (a 2) (a 3)) λv h h0 h1 h2 h3=>?_
 refine⟨v,h,λi hi=>?_⟩
 have:i=0∨i=1∨i=2∨i=3:=by lia
 rcases this with rfl | rfl | rfl | rfl<;>assumption
theorem Kl(h:y∈Ca R E x):∃b,(De R x,b)∈E∧y=R.idxOf b:=by
 refine Aj (mem_map.mp h) λp h1 h2=>?_
 refine xa (mem_filter.mp h1) λh3 h4=>?_
 obtain⟨a,b⟩:=p
 have:a=De R x:=eq_of_beq h4
 exact⟨b,by rw[←this];exact h3,h2.symm⟩
theorem V9(h:(De R x,b)∈E):R.idxOf b∈Ca R E x:=
 mem_map.mpr ⟨_,mem_filter.mpr ⟨h,beq_self_eq_true _⟩,rfl⟩
def Qq(m:Nat)(rs:List Rl):Prop:=∀p∈B2 rs,p.1∈Ab m∧p.2∈Ab m
theorem Aid{m:Nat}(hm:m < 16){rs:List Rl}(hr:∀r∈rs,C2 r)(hin:Qq m rs):T0 (Cj m).length (Ab m).length (Ca (Ab m) (B2 rs)) (λv x=>Tr v (De (Ab m) x)) (· < 16):=by
 have hR:=Pj hm
 have op_lt:∀x,x < (Ab m).length→A7 (Cj m).length (Ab m).length x < (Ab m).length:=λx hx=>mod_lt _ (by exact lt_of_le_of_lt (zero_le _) ‹_›)
 have elt:∀{x y:Nat},y∈Ca (Ab m) (B2 rs) x→x < (Ab m).length∧y < (Ab m).length:=by
  intro x y h
  refine Aj (Kl h) λb h1 z=>?_
  subst z
  refine⟨?_,idxOf_lt_length_iff.mpr (hin _ h1).2⟩
  apply Classical.byContradiction
  intro hx
  have h2:=Qg hr h1
  have:De (Ab m) x=8:=by delta De;rw[getElem?_eq_none (by exact not_lt.mp ‹_›)];rfl
  simp only at h2
  lia
 refine⟨P0 m,λx y h=>elt h,λx y h=>?_,λv x hv hx=>?_,λA hA=>?_⟩
 ·refine xa (elt h) λhx hy=>?_
  refine Aj (Kl h) λb h1 z=>?_
  subst z
  have hs:=To hr h1
  have hb:=(hin _ h1).2
  have e1:De (Ab m) (A7 (Cj m).length (Ab m).length ((Ab m).idxOf b))=Da b:=by rw[Kh hy,Hj hb]
  have e2:(Ab m).idxOf (Da (De (Ab m) x))=A7 (Cj m).length (Ab m).length x:=by
   rw[←Kh hx]
   exact Ue hR.nd (op_lt x hx)
  rw[←e2]
  refine V9 ?_
  rw[e1]
  exact hs
 ·skip
  rw[Kh hx]
  exact Aer (hR.lt _ (Ir hx)) hv
 ·refine Aj (Aws λi=>A ((Ab m).idxOf i)) λv hv h4=>?_
  have low:∀x,x < (Ab m).length→De (Ab m) x < 4→Tr v (De (Ab m) x)=A x:=λx hx hl=>by
   rw[h4 _ hl,Ue hR.nd hx]
  refine⟨v,hv,λx hx=>?_⟩
  by_cases hl:De (Ab m) x < 4
  ·exact low x hx hl
  ·have h8:=hR.lt _ (Ir hx)
   have ho:=Kh hx
   have hol:De (Ab m) (A7 (Cj m).length (Ab m).length x) < 4:=by rw[ho];delta Da;lia
   have h1:=low _ (op_lt x hx) hol
   rw[hA x hx,ho,Aer h8 hv]at h1
   cases e1:Tr v (De (Ab m) x)<;>cases e2:A x<;>simp_all
end
noncomputable section
open PySem PyProof.Rows
theorem Cl.range(h:n < 1000)(cel:List Ad):Cl (d+1) (.type "range") [num n] cel (.rng n) cel:=by
 refine⟨1,?_⟩
 show(Gi (decide ((0:Int)≤(n:Int)∧(n:Int) < 1000)) (AV.rng n)).map _=_
 rw[decide_eq_true ⟨by exact Int.natCast_nonneg _,by exact Int.ofNat_lt.mpr ‹_›⟩]
 rfl
theorem Dz(h:n < 1000)(cel:List Ad):Ai cel (.rng n)=some (Ac (List.range n),cel):=by
 show(if n < 100000 then some (Yt n,cel)else none)=_
 rw[if_pos (by exact lt_add_left _ ‹_›)]
 rfl
theorem Jt(l:List Nat):Dj (Ac l)=some (l.map fun(i:Nat)=>(i:Int)):=by
 induction l with
 | nil=>rfl
 | cons x l ih=>simp[Ac,Dj]at ih⊢;exact ih
theorem Cl.sorted(h:cel[i]? = some c)(hc:c.items=Ac l)(hl:l.length≤60):Cl (d+1) (.builtin "sorted") [.cell i] cel (.cell cel.length) (cel++[.m ((D6 (l.map fun(i:Nat)=>(i:Int))).map .int)]):=by
 have hi:=Jt l
 refine⟨1,?_⟩
 show((((cel[i]?).map Ad.items).bind λl=>(Dj l).bind λx=>Gi (Nat.ble l.length 60) ((D6 x).map D.int)).map λl=>(AV.cell cel.length,cel++[Ad.m l]))=_
 rw[h]
 show(((Dj c.items).bind λx=>Gi (Nat.ble c.items.length 60) ((D6 x).map D.int)).map λl=>(AV.cell cel.length,cel++[Ad.m l]))=_
 rw[hc,hi]
 rw[Ah,show Nat.ble l.length 60=true from ble_eq.mpr hl]
 rfl
theorem U5:∀{l m:List Nat},l.Pairwise (· < ·)→m.Pairwise (· < ·)→(∀x,x∈l↔x∈m)→l=m
 | [],[],_,_,_=>rfl
 | [],y::m,_,_,h=>by have:=(h y).mpr mem_cons_self;cases this
 | x::l,[],_,_,h=>by have:=(h x).mp mem_cons_self;cases this
 | x::l,y::m,hl,hm,h=>by
  rw[pairwise_cons]at hl hm
  have e:x=y:=by
   have h1:=(h x).mp mem_cons_self
   have h2:=(h y).mpr mem_cons_self
   rcases mem_cons.mp h1 with h1 | h1
   ·exact h1
   ·rcases mem_cons.mp h2 with h2 | h2
    ·exact h2.symm
    ·have:=hl.1 y h2;have:=hm.1 x h1;lia
  subst e
  rw[U5 hl.2 hm.2 λz=>?_]
  have:=h z
  simp only[mem_cons]at this
  constructor
  ·intro hz
   have h3:=hl.1 z hz
   exact(this.mp (.inr hz)).resolve_left (by exact ne_of_gt ‹_›)
  ·intro hz
   have h3:=hm.1 z hz
   exact(this.mpr (.inr hz)).resolve_left (by lia)
theorem Ua{l:List Nat}{n:Nat}(hn:l.Nodup)(hm:∀x,x∈l↔x < n):(D6 (l.map fun(i:Nat)=>(i:Int))).map D.int=Ac (List.range n):=by
 have e:D6 (l.map fun(i:Nat)=>(i:Int))=(l.mergeSort λa b=>decide (a≤b)).map fun(i:Nat)=>(i:Int):=by
  delta D6
  rw[map_mergeSort]
  intro a _ b _
  simp
 have hp:=mergeSort_perm l λa b=>decide (a≤b)
 have hs:(l.mergeSort λa b=>decide (a≤b)).Pairwise (· < ·):=by
  have h1:=pairwise_mergeSort (le:=λa b:Nat=>decide (a≤b)) (λa b c h1 h2=>by simp at *;exact le_trans ‹_› ‹_›) (λa b=>by simp;lia) l
  have h2:(l.mergeSort λa b=>decide (a≤b)).Nodup:=hp.nodup_iff.mpr hn
  rw[nodup_iff_pairwise_ne]at h2
  exact(h1.and h2).imp fun⟨h3,h4⟩=>by simp at h3;exact lt_of_le_of_ne ‹_› ‹_›
 have key:(l.mergeSort λa b=>decide (a≤b))=List.range n:=U5 hs pairwise_lt_range λx=>by
  rw[hp.mem_iff,hm,mem_range]
 rw[e,key]
 rw[map_map]
 rfl
theorem Xc:∀(l m:List Nat),F8 (K6 4) (Ac l) (Ac m)=some (decide (l=m))
 | l,m=>by
  delta F8
  rw[Ah,Ah]
  split
  ·rename_i h
   induction l generalizing m with
   | nil=>
    induction m using List.casesOn with
    | nil=>rfl
    | cons y m=>simp at h
   | cons x l ih=>
    induction m using List.casesOn with
    | nil=>simp at h
    | cons y m=>
     simp only[length_cons,add_right_cancel_iff]at h
     have h1:=ih m h
     show(some ((x:Int)==(y:Int))).bind (λa=>(Zk (K6 4) (Ac l) (Ac m)).map λb=>a&&b)=_
     rw[h1]
     congr 1
     have hxy:((x:Int)==(y:Int))=decide (x=y):=by
      rw[Bool.eq_iff_iff];simp;lia
     rw[hxy]
     simp[Bool.decide_and]
  ·rename_i h
   rw[decide_eq_false]
   intro e;exact h (by rw[e])
theorem Sv(h1:cel[i]? = some c)(h2:cel[j]? = some c')(e1:c.items=Ac l)(e2:c'.items=Ac m):cmp .NotEq (.cell i) (.cell j) cel=some (!decide (l=m)):=by
 rw[Tz (By h1) (By h2),e1,e2,Xc];rfl
theorem Ck(a b:Nat)(h:b≠0)(σ:St):binop .Mod (num a) (num b) σ=some (num (a % b),σ):=by
 show(Gi (decide ((b:Int)≠0)) ((a:Int).fmod b)).map (λz=>(AV.d (D.int z),σ))=_
 rw[decide_eq_true (by lia),Int.fmod_eq_emod_of_nonneg _ (by exact Int.natCast_nonneg _)]
 rfl
theorem Abh(n:Nat)(σ:St):binop .FloorDiv (num n) (.d (.int 2)) σ=some (num (n / 2),σ):=by
 show(Gi (decide ((2:Int)≠0∧(2:Int).natAbs < 1073741824)) ((n:Int).fdiv 2)).map (λz=>(AV.d (D.int z),σ))=_
 rw[decide_eq_true (by decide),Int.fdiv_eq_ediv_of_nonneg _ (by decide)]
 rfl
theorem O2(a j:Nat)(σ:St):binop .RShift (num a) (num j) σ=some (num (a >>> j),σ):=by
 show(Gi (decide (0≤(j:Int))) ((a:Int).fdiv (2 ^ (j:Int).toNat))).map (λz=>(AV.d (D.int z),σ))=_
 rw[decide_eq_true (by lia),Int.toNat_natCast,shiftRight_eq_div_pow,Int.fdiv_eq_ediv_of_nonneg _ (Int.pow_nonneg (by decide))]
 show _=some (AV.d (D.int ((a / 2 ^ j:Nat):Int)),σ)
 rw[Int.natCast_ediv,Int.natCast_pow]
 rfl
theorem Po(a j:Nat):(a >>> j) &&& 1=(a.testBit j).toNat:=by
 rw[Nat.testBit,Nat.and_comm 1]
 have:=and_one_is_mod (a >>> j)
 rw[this]
 rcases mod_two_eq_zero_or_one (a >>> j)with h | h<;>simp[h]
structure LR where
 kept:Option AV:=none
 rule:Option AV:=none
 half:Option AV:=none
 turn:Option AV:=none
 g:Option AV:=none
 k:Option AV:=none
 torn:Option AV:=none
 clash:Option AV:=none
 one:Option AV:=none
 two:Option AV:=none
 truths:Option AV:=none
 setting:Option AV:=none
 j:Option AV:=none
 follows:Option AV:=none
 told:Option AV:=none
noncomputable def LR.loc(l:LR):List (Option AV):=[some (.cell 0),some (.cell 1),some (.cell 2),some (.cell 3),l.kept,l.rule,l.half,l.turn,l.g,l.k,l.torn,l.clash,l.one,l.two,l.truths,l.setting,l.j,l.follows,l.told,none,none,none,none,none,none]
noncomputable abbrev R'(l:LR)(cel:List Ad):St:=⟨l.loc,cel⟩
noncomputable def sR:Scope:=Ke (st 82)
noncomputable def bR(i:Nat):Stmt:=sub (Ft (st 82)) i
section
variable {d:Nat} {cel:List Ad}
theorem Oc:∀(rs:List Rl) (a:Nat) (l:LR),(∀r∈rs,C2 r)→∃ru,Fr (d+2) sR (Bh (bR 1)) (B1 (bR 1)) (rs.map Ak) (R' {l with kept:=some (num a)} cel) .next (R' {l with kept:=some (num (Ep (rs.map E5) a)),rule:=ru} cel)
 | [],a,l,_=>⟨l.rule,.nil⟩
 | r::rs,a,l,h=>by
  have h0:=h r mem_cons_self
  refine xe (Oc rs (a &&& E5 r) {l with rule:=some (.d (Ak r))} λx hx=>h x (mem_cons_of_mem _ hx)) λru ih=>?_
  exact⟨ru,.next (σ₁:=(R' {l with kept:=some (num a),rule:=some (.d (Ak r))} cel)) rfl (Azg (σ₁:=(R' {l with kept:=some (num (a &&& E5 r)),rule:=some (.d (Ak r))} cel)) (Azi (Azn (Azf rfl) (Azp rfl (Azf rfl) (Azh (Azf rfl) Azj) ((Q3 h0.1 h0.2.1 h0.2.2 cel).deeper (by exact le_add_left _ _))) (Dg _ _ _)) rfl) Azm) ih⟩
theorem Mc(he:e=Dn (bR 3))(i:Nat)(pre post:List Ad)(hi:pre.length=i):∀(ds:List D) (xs:List D) (v:Option AV),xs.length+ds.length≤1000→∃v',Tn (d+2) (Vc e) (I2 e) i (Dy e 0).target (Dy e 0).ifs ds ⟨[none,v],pre ++ .m xs::post⟩ ⟨[none,v'],pre ++ .m (xs++ds.map λ_=>.int 0)::post⟩
 | [],xs,v,_=>by
  refine⟨v,?_⟩
  rw[map_nil,append_nil]
  exact .nil
 | x::ds,xs,v,hl=>by
  dsimp only[length_cons]at hl
  refine xe (Mc he i pre post hi ds (xs++[.int 0]) (some (.d x)) (by simp;lia)) λv' ih=>?_
  refine⟨v',?_⟩
  rw[map_cons]
  rw[append_assoc]at ih
  subst he
  refine .take (σ₁:=⟨[none,some (.d x)],pre ++ .m xs::post⟩) (σ₂:=⟨[none,some (.d x)],pre ++ .m xs::post⟩) (σ₃:=⟨[none,some (.d x)],pre ++ .m xs::post⟩) (x:=.int 0) (cel:=pre ++ .m xs::post) rfl (.inl ⟨rfl,rfl⟩) Azo rfl (xs:=xs) ?_ (At (by lia)) ?_
  ·rw[←hi];exact Be
  ·rw[←hi,D3]
   rw[hi]
   exact ih
theorem Ro(n:Nat)(ds:List D)(h:ds.length=n):(ds.map λ_=>D.int 0)=Al n λ_=>0:=by
 refine List.ext_getElem? λi=>?_
 delta Al
 rw[getElem?_map,getElem?_map]
 by_cases hi:i < n
 ·rw[List.getElem?_eq_getElem (by lia),getElem?_range hi];rfl
 ·rw[getElem?_eq_none (by lia),getElem?_eq_none (by simp;exact not_lt.mp ‹_›)];rfl
noncomputable def Q9:List (List Nat)→Nat→(Nat→Nat)→Nat→Nat
 | [],_,f=>f
 | G::r,g,f=>Q9 r (g+1) λx=>if x∈G then g else f x
theorem Rt:∀(gs:List (List Nat)) (g:Nat) (f:Nat→Nat) {x:Nat},x∉gs.flatten→Q9 gs g f x=f x
 | [],_,_,_,_=>rfl
 | G::r,g,f,x,h=>by
  rw[flatten_cons,mem_append]at h
  show Q9 r (g+1) _ x=_
  rw[Rt r _ _ λh2=>h (.inr h2)]
  simp only[show x∉G from λh1=>h (.inl h1),if_false]
theorem Wr:∀(gs:List (List Nat)) (g:Nat) (f:Nat→Nat),gs.flatten.Nodup→∀{i x:Nat} {G:List Nat},gs[i]? = some G→x∈G→Q9 gs g f x=g+i
 | [],_,_,_,i,x,G,h,_=>by simp at h
 | A::r,g,f,hn,i,x,G,h,hx=>by
  rw[flatten_cons,nodup_append]at hn
  induction i using Nat.casesOn with
  | zero=>
   simp at h
   subst h
   show Q9 r (g+1) _ x=_
   rw[Rt r _ _ λh2=>hn.2.2 x hx x h2 rfl]
   simp[hx]
  | succ i=>
   simp at h
   show Q9 r (g+1) _ x=_
   rw[Wr r _ _ hn.2.1 h hx]
   exact add_right_comm _ _ _
theorem Yo(D:Mo n adj gs leads)(hx:x < n):Q9 gs 0 (λ_=>0) x=Ag gs x:=by
 refine Aj (mem_flatten.mp ((D.mem x).mp hx)) λG h1 h2=>?_
 refine xe (mem_iff_getElem?.mp h1) λi hi=>?_
 rw[Wr gs 0 _ D.nd hi h2,D.uniq i x G hi h2]
 exact add_comm _ _
theorem Qh(h:∀x,x < n→f x=f' x):Al n f=Al n f':=by
 refine map_congr_left λx hx=>?_
 rw[h x (mem_range.mp hx)]
theorem Vm{c0 c1 c2 c3:Ad}{n g:Nat}(hn:n≤8){l:LR}:∀(js:List Nat) (f:Nat→Nat) (kv:Option AV),(∀j∈js,j < n)→∃kv',Fr (d+2) sR (Bh (sub (Bh (bR 4)) 0)) (B1 (sub (Bh (bR 4)) 0)) (Ac js)
   (R' {l with turn:=some (.cell 4),g:=some (num g),k:=kv} [c0,c1,c2,c3,.m (Al n f)]) .next (R' {l with turn:=some (.cell 4),g:=some (num g),k:=kv'} [c0,c1,c2,c3,.m (Al n λx=>if x∈js then g else f x)])
 | [],f,kv,_=>by
  have e:(λx=>if x∈([]:List Nat)then g else f x)=f:=by funext x;simp
  rw[e]
  exact⟨kv,.nil⟩
 | j::js,f,kv,hj=>by
  have hjn:=hj j mem_cons_self
  obtain⟨kv',ih⟩:=Vm (c0:=c0) (c1:=c1) (c2:=c2) (c3:=c3) (l:=l) hn js (Ho f j g) (some (num j)) λx hx=>hj x (mem_cons_of_mem _ hx)
  have e:(λx=>if x∈js then g else Ho f j g x)=λx=>if x∈j::js then g else f x:=by
   funext x
   by_cases h1:x∈js
   ·simp[h1]
   ·by_cases h2:x=j
    ·subst h2;simp[h1,C1]
    ·simp[h1,h2,Bd]
  rw[e]at ih
  refine⟨kv',.next (σ₁:=(R' {l with turn:=some (.cell 4),g:=some (num g),k:=some (num j)} [c0,c1,c2,c3,.m (Al n f)])) rfl (Azg (σ₁:=(R' {l with turn:=some (.cell 4),g:=some (num g),k:=some (num j)} [c0,c1,c2,c3,.m (Al n (Ho f j g))])) ?_ Azm) ih⟩
  rw[←I6 n j f g]
  exact Sx.setitem (σ₁:=(R' {l with turn:=some (.cell 4),g:=some (num g),k:=some (num j)} [c0,c1,c2,c3,.m (Al n f)])) (σ₂:=(R' {l with turn:=some (.cell 4),g:=some (num g),k:=some (num j)} [c0,c1,c2,c3,.m (Al n f)])) (σ₃:=(R' {l with turn:=some (.cell 4),g:=some (num g),k:=some (num j)} [c0,c1,c2,c3,.m (Al n f)])) (c:=4) (xs:=Al n f) (by exact nsi rfl)
   (Azf rfl) (Azf rfl) (Azf rfl) rfl (by rw[Ce];exact E0 hjn (by exact le_trans ‹_› (by decide)))
theorem Qc{c0 c1 c2 c3:Ad}{n:Nat}(hn:n≤8){gs:List (List Nat)}(hg:c2.items=Bv gs)(hgl:gs.length≤8)(hlt:∀G∈gs,∀x∈G,x < n){l:LR}:∀(r:List (List Nat)) (g:Nat) (f:Nat→Nat) (gv kv:Option AV),gs.drop g=r→∃gv' kv',Fr (d+2) sR (Bh (bR 4)) (B1 (bR 4)) (Ac (List.range' g r.length))
   (R' {l with turn:=some (.cell 4),g:=gv,k:=kv} [c0,c1,c2,c3,.m (Al n f)]) .next (R' {l with turn:=some (.cell 4),g:=gv',k:=kv'} [c0,c1,c2,c3,.m (Al n (Q9 r g f))])
 | [],g,f,gv,kv,_=>⟨gv,kv,.nil⟩
 | G::r,g,f,gv,kv,hd=>by
  have h1:gs[g]? = some G:=by
   have:=congrArg (·[0]?) hd
   simpa using this
  have h2:gs.drop (g+1)=r:=by
   rw[←drop_drop,hd];rfl
  refine xe (Vm (d:=d) (c0:=c0) (c1:=c1) (c2:=c2) (c3:=c3) (g:=g) hn (l:=l) G f kv (hlt G (mem_of_getElem? h1))) λkv1 h3=>?_
  refine Op (Qc (c0:=c0) (c1:=c1) (c3:=c3) (l:=l) hn hg hgl hlt r (g+1) (λx=>if x∈G then g else f x) (some (num g)) kv1 h2) λgv' kv' ih=>?_
  refine⟨gv',kv',.next (σ₁:=(R' {l with turn:=some (.cell 4),g:=some (num g),k:=kv} [c0,c1,c2,c3,.m (Al n f)])) rfl (Azg (Sx.for (by exact nfa rfl) (Azs (by exact Dc rfl) (Azf rfl) (Azf rfl) (A2 (c:=c2) (x:=.lst (Ac G)) rfl ?_ ?_)) rfl h3) Azm) ih⟩
  ·rw[hg];delta Bv;rw[getElem?_map,h1];rfl
  ·rw[hg];delta Bv;rw[length_map];exact le_add_left_of_le ‹_›
end
inductive T2(d:Nat)(sc:Scope)(elt:Expr)(i:Nat)(t:Expr)(g:Comprehension):List D→St→St→Prop
 | nil {σ:St}:T2 d sc elt i t g [] σ σ
 | cons {v:D} {vs ds:List D} {σ σ₁ σ₂ σ₃ σ₄:St} {u:AV} {cel:List Ad}:bindT sc t v σ=some σ₁→Ev d sc g.iter σ₁ u σ₂→Ai σ₂.cel u=some (ds,cel)→Tn d sc elt i g.target g.ifs ds ⟨σ₂.loc,cel⟩ σ₃→T2 d sc elt i t g vs σ₃ σ₄→T2 d sc elt i t g (v::vs) σ σ₄
theorem T2.at(h:T2 d sc elt i t g ds σ σ₁):∃N,∀K,N≤K→Dt (IQ K d) sc elt i t g ds σ=some σ₁:=by
 induction h with
 | nil=>exact⟨0,λ_ _=>rfl⟩
 | cons h1 h2 h3 h4 _ ih=>
  refine xe h2.at λN h2=>?_
  refine xe h4.at λM h4=>?_
  refine xe ih λL ih=>?_
  exact⟨N+M+L,λK hK=>by simp only[Dt,h1,bind_some,h2 K (by lia),h3,h4 K (by lia),ih K (by exact le_trans (le_add_left _ _) ‹_›)]⟩
theorem Ev.lc2(hok:(!Ex sc sc'||g.is_async != 0||g'.is_async != 0)=false)(hif:g.ifs=[])(h1:Ev d sc g.iter σ x ⟨loc₁,cel₁⟩)(h2:Ai cel₁ x=some (ds,cel))(hn:cel.length=n)(hi:Cq sc sc' loc₁=loc)
  (h3:T2 d sc' elt n g.target g' ds ⟨loc,cel++[.m []]⟩ ⟨loc',cel'⟩):Ev d sc (.ListComp elt [g,g'] sc' p) σ (.cell n) ⟨loc₁,cel'⟩:=by
 subst hn;subst hi
 refine xe h1.at λN h1=>?_
 refine xe h3.at λM h3=>?_
 exact Ev.of (N:=N+M) (.lc2 hok hif (h1 _ (le_add_right N M)) h2 (h3 _ (le_add_left M N)))
noncomputable def Tp:Expr→Nat→Expr
 | .Call _ as _ _,i=>as[i]?.getD (.Constant .none 0 default)
 | .Compare a _ bs _,i=>(a::bs)[i]?.getD (.Constant .none 0 default)
 | e,_=>e
noncomputable def Jj:Expr:=Tp (Tp (Dn (bR 5)) 0) 0
noncomputable def Ags:Expr:=Tp (Dn (bR 5)) 1
section
variable {d:Nat} {K0 K1 K2 c3 T:Ad}
theorem Vu(ys:List Nat)(gD:Option AV):∀(js:List Nat) (ys:List Nat) (kv:Option AV),ys.length+js.length≤1000→∃kv',Tn (d+2) (Vc Jj) (I2 Jj) 5 (Dy Jj 1).target (Dy Jj 1).ifs (Ac js) ⟨[none,gD,kv],[K0,K1,K2,c3,T,.m (Ac ys)]⟩ ⟨[none,gD,kv'],[K0,K1,K2,c3,T,.m (Ac (ys++js))]⟩
 | [],ys,kv,_=>by
  rw[append_nil]
  exact⟨kv,.nil⟩
 | j::js,ys,kv,hl=>by
  simp only[length_cons]at hl
  refine xe (Vu ys gD js (ys++[j]) (some (num j)) (by simp;lia)) λkv' ih=>?_
  rw[append_assoc,←Fh]at ih
  exact⟨kv',.take (σ₁:=⟨[none,gD,some (num j)],[K0,K1,K2,c3,T,.m (Ac ys)]⟩) (σ₂:=⟨[none,gD,some (num j)],[K0,K1,K2,c3,T,.m (Ac ys)]⟩) rfl (.inl ⟨rfl,rfl⟩) (Azf rfl) rfl (xs:=Ac ys) rfl (At (by rw[Ah];lia)) ih⟩
theorem Q5:∀(gs:List (List Nat)) (ys:List Nat) (gv kv:Option AV),ys.length+gs.flatten.length≤1000→∃gv' kv',T2 (d+2) (Vc Jj) (I2 Jj) 5 (Dy Jj 0).target (Dy Jj 1) (Bv gs) ⟨[none,gv,kv],[K0,K1,K2,c3,T,.m (Ac ys)]⟩ ⟨[none,gv',kv'],[K0,K1,K2,c3,T,.m (Ac (ys++gs.flatten))]⟩
 | [],ys,gv,kv,_=>by
  rw[flatten_nil,append_nil]
  exact⟨gv,kv,.nil⟩
 | G::gs,ys,gv,kv,hl=>by
  simp only[flatten_cons,length_append]at hl
  refine xe (Vu (d:=d) (K0:=K0) (K1:=K1) (K2:=K2) (c3:=c3) (T:=T) ys (some (.d (.lst (Ac G)))) G ys kv (by lia)) λkv1 h1=>?_
  refine Op (Q5 gs (ys++G) (some (.d (.lst (Ac G)))) kv1 (by rw[length_append];lia)) λgv' kv' ih=>?_
  rw[append_assoc,←flatten_cons]at ih
  exact⟨gv',kv',.cons (σ₁:=⟨[none,some (.d (.lst (Ac G))),kv],[K0,K1,K2,c3,T,.m (Ac ys)]⟩) rfl (Azf rfl) rfl h1 ih⟩
theorem Na:∀(js:List Nat) (ys:List Nat) (kv:Option AV),ys.length+js.length≤1000→∃kv',Tn (d+2) (Vc Ags) (I2 Ags) 7 (Dy Ags 0).target (Dy Ags 0).ifs (Ac js) ⟨[none,kv],[K0,K1,K2,c3,T,F,S,.m (Ac ys)]⟩ ⟨[none,kv'],[K0,K1,K2,c3,T,F,S,.m (Ac (ys++js))]⟩
 | [],ys,kv,_=>by
  rw[append_nil]
  exact⟨kv,.nil⟩
 | j::js,ys,kv,hl=>by
  simp only[length_cons]at hl
  obtain⟨kv',ih⟩:=Na js (ys++[j]) (some (num j)) (by simp;lia)
  rw[append_assoc,←Fh]at ih
  exact⟨kv',.take (σ₁:=⟨[none,some (num j)],[K0,K1,K2,c3,T,F,S,.m (Ac ys)]⟩) (σ₂:=⟨[none,some (num j)],[K0,K1,K2,c3,T,F,S,.m (Ac ys)]⟩) rfl (.inl ⟨rfl,rfl⟩) (Azf rfl) rfl (xs:=Ac ys) rfl (At (by rw[Ah];lia)) ih⟩
theorem Sg(hn:n≤8)(h2:c2.items=Bv gs)(h1:K1.items.length=n)(hnd:gs.flatten.Nodup)(hm:∀x,x∈gs.flatten↔x < n):
  Sx (d+2) sR (bR 5) (R' l [K0,K1,c2,c3,T]) .next (R' l [K0,K1,.f (Bv gs),c3,T,.m (Ac gs.flatten),.m (Ac (List.range n)),.m (Ac (List.range n))]):=by
 have hlen:gs.flatten.length≤n:=Gq n hnd λx hx=>(hm x).mp hx
 refine Op (Q5 (d:=d) (K0:=K0) (K1:=K1) (K2:=.f (Bv gs)) (c3:=c3) (T:=T) gs [] none none (by rw[length_nil];lia)) λgv kv f1=>?_
 refine xe (Na (d:=d) (K0:=K0) (K1:=K1) (K2:=.f (Bv gs)) (c3:=c3) (T:=T) (F:=.m (Ac gs.flatten)) (S:=.m (Ac (List.range n))) (List.range n) [] none (by simp;exact le_trans ‹_› (by decide))) λkv2 f2=>?_
 have hit:Ai [K0,K1,c2,c3,T] (.cell 2)=some (Bv gs,[K0,K1,.f (Bv gs),c3,T]):=by
  show some (c2.items,[K0,K1,.f c2.items,c3,T])=_
  rw[h2]
 have hso:Cl (d+1+1) (.builtin "sorted") [.cell 5] [K0,K1,.f (Bv gs),c3,T,.m (Ac gs.flatten)] (.cell 6) [K0,K1,.f (Bv gs),c3,T,.m (Ac gs.flatten),.m (Ac (List.range n))]:=by
  have:=Cl.sorted (d:=d+1) (cel:=[K0,K1,.f (Bv gs),c3,T,.m (Ac gs.flatten)]) (i:=5) (l:=gs.flatten) rfl rfl (by lia)
  rw[Ua hnd hm]at this
  exact this
 have hln:Cl (d+1+1) (.builtin "len") [.cell 1] [K0,K1,.f (Bv gs),c3,T,.m (Ac gs.flatten),.m (Ac (List.range n))] (num n) [K0,K1,.f (Bv gs),c3,T,.m (Ac gs.flatten),.m (Ac (List.range n))]:=by
  have:=Cl.len (d:=d+1) (a:=.cell 1) (cel:=[K0,K1,.f (Bv gs),c3,T,.m (Ac gs.flatten),.m (Ac (List.range n))]) (l:=K1.items) rfl (At (by lia))
  rw[h1]at this
  exact this
 refine Azq (c:=false) (Azt (Azr (Azp rfl (Azf rfl) (Azh (Ev.lc2 rfl rfl (Azf rfl) hit rfl rfl f1) Azj) hso) (Ev.lc rfl (Azp rfl (Azf rfl) (Azh (Azp rfl (Azf rfl) (Azh (Azf rfl) Azj) hln) Azj) (Cl.range (by lia) _)) (Dz (by lia) _) rfl rfl f2) ?_)) Azm
 rw[Sv (l:=List.range n) (m:=List.range n) rfl rfl rfl rfl]
 simp
end
theorem D9(a b:Nat)(cel:List Ad):cmp .Eq (num a) (num b) cel=some (a==b):=by
 show some ((a:Int)==(b:Int))=_
 congr 1
 rw[Bool.eq_iff_iff];simp;lia
theorem Agc(h:cel[i]? = some c)(hc:c.items=Ac L)(k:Nat):cmp .In (num k) (.cell i) cel=some (L.contains k):=by
 rw[Aj6 ((By h).trans (congrArg some hc)) (Jt L)]
 congr 1
 rw[any_map,Bool.eq_iff_iff,any_eq_true,contains_iff_mem]
 constructor
 ·intro w
  refine Aj w λx hx he=>?_
  clear w
  simp only[Function.comp,beq_iff_eq]at he
  have:x=k:=by lia
  rw[←this];exact hx
 ·intro hk
  exact⟨k,hk,by simp⟩
theorem D5(h:cel[i]? = some (.m (Al n f)))(hk:k < n)(hn:n≤8):item (.cell i) (num k) cel=some (num (f k)):=
 A2 h (Fs f hk) (by show(Al n f).length≤1000;rw[Ce];exact le_add_left_of_le ‹_›)
noncomputable def N1:Expr:=Dn (bR 6)
noncomputable def Gg(n h:Nat)(gs:List (List Nat)):List Nat:=(List.range n).filter λk=>Ag gs k==Ag gs (A7 h n k)
section
variable {d n h:Nat} {K0 K1 K2 c3 F S S' TO EM:Ad} {gs:List (List Nat)}
theorem H4(hn:n≤8)(hK:K1.items.length=n):∀(js ys:List Nat) (kv:Option AV),ys.length+js.length≤100→(∀j∈js,j < n)→∃kv',Tn (d+2) (Vc N1) (I2 N1) 8 (Dy N1 0).target (Dy N1 0).ifs (Ac js)
   ⟨[none,kv,none,some (num h),some (.cell 1),some (.cell 4)],[K0,K1,K2,c3,.m (Al n (Ag gs)),F,S,S',.m (Ac ys)]⟩ ⟨[none,kv',none,some (num h),some (.cell 1),some (.cell 4)],[K0,K1,K2,c3,.m (Al n (Ag gs)),F,S,S',.m (Ac (ys++js.filter λk=>Ag gs k==Ag gs (A7 h n k)))]⟩
 | [],ys,kv,_,_=>by
  rw[filter_nil,append_nil]
  exact⟨kv,.nil⟩
 | j::js,ys,kv,hl,hj=>by
  simp only[length_cons]at hl
  have hjn:=hj j mem_cons_self
  have hln:∀ys,Cl (d+1+1) (.builtin "len") [.cell 1] [K0,K1,K2,c3,.m (Al n (Ag gs)),F,S,S',.m (Ac ys)] (num n) [K0,K1,K2,c3,.m (Al n (Ag gs)),F,S,S',.m (Ac ys)]:=λys=>by
   have:=Cl.len (d:=d+1) (a:=.cell 1) (cel:=[K0,K1,K2,c3,.m (Al n (Ag gs)),F,S,S',.m (Ac ys)]) (l:=K1.items) rfl (At (by lia))
   rw[hK]at this
   exact this
  have tst:Tv (d+2) (Vc N1) ((Dy N1 0).ifs[0]?.getD (.Constant .none 0 default)) ⟨[none,some (num j),none,some (num h),some (.cell 1),some (.cell 4)],[K0,K1,K2,c3,.m (Al n (Ag gs)),F,S,S',.m (Ac ys)]⟩ (Ag gs j==Ag gs (A7 h n j))
    ⟨[none,some (num j),none,some (num h),some (.cell 1),some (.cell 4)],[K0,K1,K2,c3,.m (Al n (Ag gs)),F,S,S',.m (Ac ys)]⟩:=
   Azt (Azr (Azs (by exact Dc rfl) (Azf rfl) (Azf rfl) (D5 rfl hjn hn)) (Azs (by exact Dc rfl) (Azf rfl) (Azn (Azn (Azf rfl) (Azf rfl) (Bu _ _ _)) (Azp rfl (Azf rfl) (Azh (Azf rfl) Azj) (hln ys)) (Ck _ _ (by lia) _)) (D5 rfl (mod_lt _ (by exact lt_of_le_of_lt (zero_le _) ‹_›)) hn)) (D9 _ _ _))
  cases hc:(Ag gs j==Ag gs (A7 h n j))with
  | false=>
   rw[hc]at tst
   refine xe (H4 hn hK js ys (some (num j)) (by exact le_of_lt ‹_›) λx hx=>hj x (mem_cons_of_mem _ hx)) λkv' ih=>?_
   rw[filter_cons_of_neg (p:=λk=>Ag gs k==Ag gs (A7 h n k)) (by rw[hc];decide)]
   exact⟨kv',.skip (σ₁:=⟨[none,some (num j),none,some (num h),some (.cell 1),some (.cell 4)],[K0,K1,K2,c3,.m (Al n (Ag gs)),F,S,S',.m (Ac ys)]⟩) rfl rfl tst ih⟩
  | true=>
   rw[hc]at tst
   refine xe (H4 hn hK js (ys++[j]) (some (num j)) (by rw[length_append,length_singleton];lia) λx hx=>hj x (mem_cons_of_mem _ hx)) λkv' ih=>?_
   rw[filter_cons_of_pos (p:=λk=>Ag gs k==Ag gs (A7 h n k)) hc]
   rw[append_assoc,←Fh]at ih
   exact⟨kv',.take (σ₁:=⟨[none,some (num j),none,some (num h),some (.cell 1),some (.cell 4)],[K0,K1,K2,c3,.m (Al n (Ag gs)),F,S,S',.m (Ac ys)]⟩) (σ₂:=⟨[none,some (num j),none,some (num h),some (.cell 1),some (.cell 4)],[K0,K1,K2,c3,.m (Al n (Ag gs)),F,S,S',.m (Ac ys)]⟩) rfl (.inr ⟨_,rfl,tst⟩) (Azf rfl) rfl (xs:=Ac ys) rfl (At (by rw[Ah];lia)) ih⟩
theorem Tm(hn:n≤8)(hK:K1.items.length=n)(h1:l.half=some (num h))(h2:l.turn=some (.cell 4)):
  Sx (d+2) sR (bR 6) (R' l [K0,K1,K2,c3,.m (Al n (Ag gs)),F,S,S']) .next (R' {l with torn:=some (.cell 8)} [K0,K1,K2,c3,.m (Al n (Ag gs)),F,S,S',.m (Ac (Gg n h gs))]):=by
 refine xe (H4 (d:=d) (h:=h) (K0:=K0) (K2:=K2) (c3:=c3) (F:=F) (S:=S) (S':=S') (gs:=gs) hn hK (List.range n) [] none (by simp;exact le_add_left_of_le ‹_›) (λj hj=>mem_range.mp hj)) λkv f=>?_
 have hln:Cl (d+1+1) (.builtin "len") [.cell 1] [K0,K1,K2,c3,.m (Al n (Ag gs)),F,S,S'] (num n) [K0,K1,K2,c3,.m (Al n (Ag gs)),F,S,S']:=by
  have:=Cl.len (d:=d+1) (a:=.cell 1) (cel:=[K0,K1,K2,c3,.m (Al n (Ag gs)),F,S,S']) (l:=K1.items) rfl (At (by lia))
  rw[hK]at this
  exact this
 obtain⟨kept,rule,half,turn,g,k,torn,clash,one,two,truths,setting,j,follows,told⟩:=l
 simp only at h1 h2
 subst h1;subst h2
 exact Azi (Ev.lc rfl (Azp rfl (Azf rfl) (Azh (Azp rfl (Azf rfl) (Azh (Azf rfl) Azj) hln) Azj) (Cl.range (by lia) _)) (Dz (by lia) _) rfl rfl f) rfl
noncomputable def P8(K0 K1 K2 c3 F S S':Ad)(n h:Nat)(gs:List (List Nat))(r:List Ad):List Ad:=K0::K1::K2::c3 :: .m (Al n (Ag gs))::F::S::S' :: .m (Ac (Gg n h gs))::r
theorem Zj(ha:(a==0) = !decide (Gg n h gs=[]))(h1:l.kept=some (num a))(h2:l.torn=some (.cell 8)):
  Sx (d+2) sR (bR 7) (R' l (P8 K0 K1 K2 c3 F S S' n h gs [])) .next (R' l (P8 K0 K1 K2 c3 F S S' n h gs [.m []])):=by
 obtain⟨kept,rule,half,turn,g,k,torn,clash,one,two,truths,setting,j,follows,told⟩:=l
 simp only at h1 h2
 subst h1;subst h2
 refine Azq (c:=false) (Azt (Azr (Azr (Azf rfl) Azo (D9 a 0 _)) (Azr (Azf rfl) (y:=.cell 9) (Ev.list Azj rfl rfl) (Sv (l:=Gg n h gs) (m:=[]) rfl rfl rfl rfl)) ?_)) Azm
 show some (!((a==0) == !decide (Gg n h gs=[])))=some false
 rw[ha];simp
end
noncomputable def bC:Stmt:=sub (Hw (bR 8)) 1
noncomputable def bI:Stmt:=sub (Bh bC) 0
noncomputable def inT(R:List Nat)(h:Nat)(gs:List (List Nat))(p:Nat×Nat):Bool:=(Gg R.length h gs).contains (R.idxOf p.1)&&Ag gs (R.idxOf p.1)==Ag gs (R.idxOf p.2)
noncomputable def Kn(R:List Nat)(h:Nat)(gs:List (List Nat))(m:Nat)(ps:List (Nat×Nat))(c:Nat):Nat:=ps.foldl (λc p=>if inT R h gs p then c &&& m else c) c
noncomputable def Gx(R:List Nat)(h:Nat)(gs:List (List Nat))(rs:List Rl)(c:Nat):Nat:=rs.foldl (λc r=>Kn R h gs (E5 r) (As r) c) c
section
variable {d h:Nat} {R:List Nat} {K0 K1 K2 c3 F S S':Ad} {gs:List (List Nat)}
theorem Uj(hR:Do R)(hK:K1.items=Ap (R.map lit))(hr:C2 r)(ha:a∈R)(hb:b∈R)(c:Nat)(l:LR)(q:List Ad):
  Xs (d+3) sR (Bh bI) (R' {l with turn:=some (.cell 4),torn:=some (.cell 8),rule:=some (.d (Ak r)),clash:=some (num c),one:=some (A8 a),two:=some (A8 b)} (P8 K0 K1 K2 c3 F S S' R.length h gs q)) .next
   (R' {l with turn:=some (.cell 4),torn:=some (.cell 8),rule:=some (.d (Ak r)),clash:=some (num (if inT R h gs (a,b)then c &&& E5 r else c)),one:=some (A8 a),two:=some (A8 b),k:=some (num (R.idxOf a))} (P8 K0 K1 K2 c3 F S S' R.length h gs q)):=by
 have hn:=hR.len
 have hia:R.idxOf a < R.length:=idxOf_lt_length_iff.mpr ha
 have hib:R.idxOf b < R.length:=idxOf_lt_length_iff.mpr hb
 have bl:∀x,x∈R→Cl (d+3) (.ref 65) [.cell 1,A8 x] (P8 K0 K1 K2 c3 F S S' R.length h gs q) (num (R.idxOf x)) (P8 K0 K1 K2 c3 F S S' R.length h gs q):=λx hx=>
  (Dq (hR.plc x hx) (by rw[length_map];exact le_trans ‹_› (by decide)) (by show some K1.items=_;rw[hK])).deeper (by exact le_add_left _ _)
 apply Azg (σ₁:=R' {l with turn:=some (.cell 4),torn:=some (.cell 8),rule:=some (.d (Ak r)),clash:=some (num c),one:=some (A8 a),two:=some (A8 b),k:=some (num (R.idxOf a))} (P8 K0 K1 K2 c3 F S S' R.length h gs q))
  (Azi (Azp rfl (Azf rfl) (Azh (Azf rfl) (Azh (Azf rfl) Azj)) (bl a ha)) rfl)
 have hin:=Agc (cel:=P8 K0 K1 K2 c3 F S S' R.length h gs q) (i:=8) (L:=Gg R.length h gs) rfl rfl (R.idxOf a)
 unfold inT
 cases h1:(Gg R.length h gs).contains (R.idxOf a)with
 | false=>
  rw[h1]at hin
  simp only[Bool.false_and,Bool.false_eq_true,if_false]
  exact Azg (Azq (c:=false) (Tv.andF (Azt (Azr (Azf rfl) (Azf rfl) hin))) Azm) Azm
 | true=>
  rw[h1]at hin
  simp only[Bool.true_and]
  cases h2:(Ag gs (R.idxOf a)==Ag gs (R.idxOf b))with
  | false=>
   simp only[Bool.false_eq_true,if_false]
   exact Azg (Azq (c:=false) (Tv.andT (Azt (Azr (Azf rfl) (Azf rfl) hin)) (Azt (Azr (Azs (by exact Dc rfl) (Azf rfl) (Azf rfl) (D5 rfl hia hn)) (Azs (by exact Dc rfl) (Azf rfl) (Azp rfl (Azf rfl) (Azh (Azf rfl) (Azh (Azf rfl) Azj)) (bl b hb)) (D5 rfl hib hn)) ((D9 _ _ _).trans (by rw[h2]))))) Azm) Azm
  | true=>
   simp only[if_true]
   exact Azg (Azq (c:=true) (Tv.andT (Azt (Azr (Azf rfl) (Azf rfl) hin)) (Azt (Azr (Azs (by exact Dc rfl) (Azf rfl) (Azf rfl) (D5 rfl hia hn)) (Azs (by exact Dc rfl) (Azf rfl) (Azp rfl (Azf rfl) (Azh (Azf rfl) (Azh (Azf rfl) Azj)) (bl b hb)) (D5 rfl hib hn)) ((D9 _ _ _).trans (by rw[h2])))))
    (Azg (Azi (Azn (Azf rfl) (Azp rfl (Azf rfl) (Azh (Azf rfl) Azj) ((Q3 hr.1 hr.2.1 hr.2.2 _).deeper (by lia))) (Dg _ _ _)) rfl) Azm)) Azm
theorem Sn(hR:Do R)(hK:K1.items=Ap (R.map lit))(hr:C2 r)(q:List Ad):∀(ps:List (Nat×Nat)) (c:Nat) (l:LR),(∀p∈ps,p.1∈R∧p.2∈R)→∃k' one' two',Fr (d+3) sR (Bh bI) (B1 bI) (ps.map Bc)
   (R' {l with turn:=some (.cell 4),torn:=some (.cell 8),rule:=some (.d (Ak r)),clash:=some (num c)} (P8 K0 K1 K2 c3 F S S' R.length h gs q)) .next
   (R' {l with turn:=some (.cell 4),torn:=some (.cell 8),rule:=some (.d (Ak r)),clash:=some (num (Kn R h gs (E5 r) ps c)),one:=one',two:=two',k:=k'} (P8 K0 K1 K2 c3 F S S' R.length h gs q))
 | [],c,l,_=>⟨l.k,l.one,l.two,.nil⟩
 | (a,b)::ps,c,l,hp=>by
  have h0:=hp (a,b) mem_cons_self
  refine Ot (Sn hR hK hr q ps (if inT R h gs (a,b)then c &&& E5 r else c) {l with one:=some (A8 a),two:=some (A8 b),k:=some (num (R.idxOf a))} λp h=>hp p (mem_cons_of_mem _ h)) λk' one' two' ih=>?_
  exact⟨k',one',two',.next (σ₁:=R' {l with turn:=some (.cell 4),torn:=some (.cell 8),rule:=some (.d (Ak r)),clash:=some (num c),one:=some (A8 a),two:=some (A8 b)} (P8 K0 K1 K2 c3 F S S' R.length h gs q)) rfl (Uj hR hK hr h0.1 h0.2 c l q) ih⟩
theorem M0(hR:Do R)(hK:K1.items=Ap (R.map lit)):∀(rs:List Rl) (c:Nat) (l:LR) (q:List Ad),(∀r∈rs,C2 r∧∀p∈As r,p.1∈R∧p.2∈R)→∃(l':LR) (q':List Ad),l'.clash=some (num (Gx R h gs rs c))∧Fr (d+3) sR (Bh bC) (B1 bC) (rs.map Ak)
   (R' {l with turn:=some (.cell 4),torn:=some (.cell 8),clash:=some (num c)} (P8 K0 K1 K2 c3 F S S' R.length h gs q)) .next (R' l' (P8 K0 K1 K2 c3 F S S' R.length h gs q'))
 | [],c,l,q,_=>⟨{l with turn:=some (.cell 4),torn:=some (.cell 8),clash:=some (num c)},q,rfl,.nil⟩
 | r::rs,c,l,q,hr=>by
  refine xa (hr r mem_cons_self) λh0 h1=>?_
  let b:=P8 K0 K1 K2 c3 F S S' R.length h gs q
  have st:=(Rm h0.1 h0.2.1 h0.2.2 b).deeper (m:=d+3) (by exact le_add_left _ _)
  have hit:Ai (b++(Ey++[.m ((As r).map Bc)])) (.cell (b.length+8))=some ((As r).map Bc,P8 K0 K1 K2 c3 F S S' R.length h gs (q++(Ey++[.f ((As r).map Bc)]))):=by
   have e1:(b++(Ey++[Ad.m ((As r).map Bc)]))[b.length+8]? = some (.m ((As r).map Bc)):=by
    rw[Vd];rfl
   show(match (b++(Ey++[Ad.m ((As r).map Bc)]))[b.length+8]? with
    | some c=>some (c.items,(b++(Ey++[Ad.m ((As r).map Bc)])).set (b.length+8) (.f c.items))
    | none=>none)=_
   rw[e1]
   show some (_,(b++(Ey++[Ad.m ((As r).map Bc)])).set (b.length+8) (.f ((As r).map Bc)))=_
   rw[set_append_right _ _ (by exact le_add_right _ _),add_sub_cancel_left]
   rfl
  refine Ot (Sn (d:=d) (h:=h) (gs:=gs) (K0:=K0) (K2:=K2) (c3:=c3) (F:=F) (S:=S) (S':=S') hR hK h0 (q++(Ey++[.f ((As r).map Bc)])) (As r) c l h1) λk' one' two' f1=>?_
  refine Kt (M0 hR hK rs (Kn R h gs (E5 r) (As r) c) {l with rule:=some (.d (Ak r)),one:=one',two:=two',k:=k'} (q++(Ey++[.f ((As r).map Bc)])) λx hx=>hr x (mem_cons_of_mem _ hx)) λl' q' e f2=>?_
  exact⟨l',q',e,.next (σ₁:=R' {l with turn:=some (.cell 4),torn:=some (.cell 8),clash:=some (num c),rule:=some (.d (Ak r))} b) rfl (Azg (Sx.for (by exact nfb rfl) (Azp rfl (Azf rfl) (Azh (Azf rfl) Azj) st) hit f1) Azm) f2⟩
theorem Qm(hR:Do R)(hK:K1.items=Ap (R.map lit))(hK0:K0 = .f (rs.map Ak))(hr:∀r∈rs,C2 r∧∀p∈As r,p.1∈R∧p.2∈R)(h1:l.kept=some (num 0))(h2:l.torn=some (.cell 8))(h3:l.turn=some (.cell 4))(h0:Gx R h gs rs 65535=0)(q:List Ad):
  ∃l' q',Sx (d+3) sR (bR 8) (R' l (P8 K0 K1 K2 c3 F S S' R.length h gs q)) (.ret (.d (.bool true))) (R' l' q'):=by
 refine Kt (M0 (d:=d) (h:=h) (gs:=gs) (K0:=K0) (K2:=K2) (c3:=c3) (F:=F) (S:=S) (S':=S') hR hK rs 65535 l q hr) λl' q' e f=>?_
 rw[h0]at e
 obtain⟨kept,rule,half,turn,g,k,torn,clash,one,two,truths,setting,j,follows,told⟩:=l
 obtain⟨kept',rule',half',turn',g',k',torn',clash',one',two',truths',setting',j',follows',told'⟩:=l'
 simp only at h1 h2 h3 e
 subst h1;subst h2;subst h3;subst e
 have hit:Ai (P8 K0 K1 K2 c3 F S S' R.length h gs q) (.cell 0)=some (rs.map Ak,P8 K0 K1 K2 c3 F S S' R.length h gs q):=by
  subst hK0;rfl
 exact⟨_,_,Azq (c:=true) (Azt (Azr (Azf rfl) Azo (D9 0 0 _))) (Azg (Azi Azo rfl) (Azg (Sx.for (by exact nfa rfl) (Azf rfl) hit f) (Xs.ret (Sx.ret (Azr (Azf rfl) Azo (D9 0 0 _))))))⟩
end
theorem Al7(a b:Nat)(cel:List Ad):cmp .NotEq (num a) (num b) cel=some (!(a==b)):=by
 show some (!((a:Int)==(b:Int)))=_
 congr 2
 rw[Bool.eq_iff_iff];simp;lia
theorem G4(a b:Nat)(cel:List Ad):cmp .Lt (num a) (num b) cel=some (decide (a < b)):=by
 show some (decide ((a:Int) < (b:Int)))=_
 congr 1
 rw[Bool.eq_iff_iff];simp
theorem Alm(a b:Nat)(cel:List Ad):cmp .Gt (num a) (num b) cel=some (decide (b < a)):=by
 show some (decide ((b:Int) < (a:Int)))=_
 congr 1
 rw[Bool.eq_iff_iff];simp
noncomputable def Ahj:Expr:=Dn (bR 9)
noncomputable def trC(R:List Nat):Ad:=.m (Ac (R.map tm))
noncomputable def F3(R:List Nat)(h:Nat)(gs:List (List Nat))(k:Nat):Nat:=if Ag gs k < Ag gs (k+h)then tm (De R k)else tm (De R (k+h))
noncomputable def fo(R:List Nat)(kept k j:Nat):Bool:=(tm (De R k) &&& kept &&& (65535 - tm (De R j)))==0
noncomputable def to(n h:Nat)(leads:Nat→Nat)(k j:Nat):Bool:=decide (0 < (leads k >>> j &&& 1)+(leads k >>> A7 h n k &&& 1)+(leads (A7 h n j) >>> j &&& 1))
section
variable {d h:Nat} {R:List Nat} {K0 K1 K2 c3 F S S':Ad} {gs:List (List Nat)}
theorem Oh(hR:Do R):∀(ls:List Nat) (ys:List Nat) (v:Option AV),(∀x∈ls,x < 8)→ys.length+ls.length≤100→∃v',Tn (d+3) (Vc Ahj) (I2 Ahj) 10 (Dy Ahj 0).target (Dy Ahj 0).ifs (Ap (ls.map lit))
   ⟨[none,v,none],P8 K0 K1 K2 c3 F S S' R.length h gs [.m [],.m (Ac ys)]⟩ ⟨[none,v',none],P8 K0 K1 K2 c3 F S S' R.length h gs [.m [],.m (Ac (ys++ls.map tm))]⟩
 | [],ys,v,_,_=>by
  simp only[map_nil,append_nil]
  exact⟨v,.nil⟩
 | x::ls,ys,v,hx,hl=>by
  simp only[length_cons]at hl
  refine xe (Oh hR ls (ys++[tm x]) (some (A8 x)) (λy hy=>hx y (mem_cons_of_mem _ hy)) (by rw[length_append,length_singleton];lia)) λv' ih=>?_
  rw[append_assoc,←Fh]at ih
  exact⟨v',.take (σ₁:=⟨[none,some (A8 x),none],P8 K0 K1 K2 c3 F S S' R.length h gs [.m [],.m (Ac ys)]⟩) (σ₂:=⟨[none,some (A8 x),none],P8 K0 K1 K2 c3 F S S' R.length h gs [.m [],.m (Ac ys)]⟩) rfl (.inl ⟨rfl,rfl⟩) (Azp rfl (Azf rfl) (Azh (Azf rfl) Azj) ((Li (hx x mem_cons_self) _).deeper (by exact zero_lt_succ _))) rfl (xs:=Ac ys) rfl (At (by rw[Ah];lia)) ih⟩
noncomputable abbrev PT(R:List Nat)(K0 K2 c3 F S S':Ad)(h:Nat)(gs:List (List Nat)):List Ad:=P8 K0 (.f (Ap (R.map lit))) K2 c3 F S S' R.length h gs [.m [],trC R]
theorem Ov(hR:Do R)(hk:k < R.length):item (.cell 10) (num k) (PT R K0 K2 c3 F S S' h gs)=some (num (tm (De R k))):=by
 refine A2 (c:=trC R) rfl ?_ ?_
 ·show(Ac (R.map tm))[k]? = _
  rw[S4,getElem?_map,List.getElem?_eq_getElem hk,O8 hk];rfl
 ·show(Ac (R.map tm)).length≤1000
  rw[Ah,length_map];have:=hR.len;exact le_add_left_of_le ‹_›
theorem Se(hR:Do R)(hh:2*h=R.length):∀(js:List Nat) (a:Nat) (l:LR),(∀j∈js,j < h)→∃k',Fr (d+3) sR (Bh (bR 11)) (B1 (bR 11)) (Ac js)
   (R' {l with half:=some (num h),turn:=some (.cell 4),truths:=some (.cell 10),setting:=some (num a)} (PT R K0 K2 c3 F S S' h gs)) .next
   (R' {l with half:=some (num h),turn:=some (.cell 4),truths:=some (.cell 10),setting:=some (num (Ep (js.map (F3 R h gs)) a)),k:=k'} (PT R K0 K2 c3 F S S' h gs))
 | [],a,l,_=>⟨l.k,.nil⟩
 | j::js,a,l,hj=>by
  have hn:=hR.len
  have hjh:=hj j mem_cons_self
  refine xe (Se hR hh js (a &&& F3 R h gs j) {l with k:=some (num j)} λx hx=>hj x (mem_cons_of_mem _ hx)) λk' ih=>?_
  have it1:=D5 (cel:=PT R K0 K2 c3 F S S' h gs) (i:=4) (f:=Ag gs) rfl (k:=j) (n:=R.length) (by lia) hn
  have it2:=D5 (cel:=PT R K0 K2 c3 F S S' h gs) (i:=4) (f:=Ag gs) rfl (k:=j+h) (n:=R.length) (by lia) hn
  have t1:=Ov (K0:=K0) (K2:=K2) (c3:=c3) (F:=F) (S:=S) (S':=S') (h:=h) (gs:=gs) hR (k:=j) (by lia)
  have t2:=Ov (K0:=K0) (K2:=K2) (c3:=c3) (F:=F) (S:=S) (S':=S') (h:=h) (gs:=gs) hR (k:=j+h) (by lia)
  refine⟨k',.next (σ₁:=R' {l with half:=some (num h),turn:=some (.cell 4),truths:=some (.cell 10),setting:=some (num a),k:=some (num j)} (PT R K0 K2 c3 F S S' h gs)) rfl
   (Azg (σ₁:=R' {l with half:=some (num h),turn:=some (.cell 4),truths:=some (.cell 10),setting:=some (num (a &&& F3 R h gs j)),k:=some (num j)} (PT R K0 K2 c3 F S S' h gs)) ?_ Azm) ih⟩
  unfold F3
  by_cases hc:Ag gs j < Ag gs (j+h)
  ·rw[if_pos hc]
   exact Azq (c:=true) (Azt (Azr (Azs (by exact Dc rfl) (Azf rfl) (Azf rfl) it1) (Azs (by exact Dc rfl) (Azf rfl) (Azn (Azf rfl) (Azf rfl) (Bu _ _ _)) it2) ((G4 _ _ _).trans (by rw[decide_eq_true hc]))))
    (Azg (Azi (Azn (Azf rfl) (Azs (by exact Dc rfl) (Azf rfl) (Azf rfl) t1) (Dg _ _ _)) rfl) Azm)
  ·rw[if_neg hc]
   exact Azq (c:=false) (Azt (Azr (Azs (by exact Dc rfl) (Azf rfl) (Azf rfl) it1) (Azs (by exact Dc rfl) (Azf rfl) (Azn (Azf rfl) (Azf rfl) (Bu _ _ _)) it2) ((G4 _ _ _).trans (by rw[decide_eq_false hc]))))
    (Azg (Azi (Azn (Azf rfl) (Azs (by exact Dc rfl) (Azf rfl) (Azn (Azf rfl) (Azf rfl) (Bu _ _ _)) t2) (Dg _ _ _)) rfl) Azm)
noncomputable def bJ:Stmt:=sub (Bh (bR 13)) 0
theorem Vx(hR:Do R)(h3:c3.items=Al R.length leads)(hk:k < R.length):item (.cell 3) (num k) (PT R K0 K2 c3 F S S' h gs)=some (num (leads k)):=by
 have hn:=hR.len
 refine A2 (c:=c3) rfl ?_ ?_
 ·rw[h3];exact Fs _ hk
 ·rw[h3,Ce];exact le_add_left_of_le ‹_›
theorem P2(hR:Do R)(cel:List Ad)(hc:cel[1]? = some (.f (Ap (R.map lit)))):Cl (d+1) (.builtin "len") [.cell 1] cel (num R.length) cel:=by
 have hn:=hR.len
 have:=Cl.len (d:=d) (a:=.cell 1) (cel:=cel) (l:=Ap (R.map lit)) (by simp only[Aw,hc,map_some,Ad.items]) (At (by rw[A4,length_map];exact le_add_left_of_le ‹_›))
 rw[A4,length_map]at this
 exact this
theorem Vn(hR:Do R)(h3:c3.items=Al R.length leads)(hk:k < R.length):∀(js:List Nat) (l:LR),(∀j∈js,j < R.length∧fo R a k j=to R.length h leads k j)→∃j' f' t',Fr (d+3) sR (Bh bJ) (B1 bJ) (Ac js)
   (R' {l with half:=some (num h),kept:=some (num a),truths:=some (.cell 10),k:=some (num k)} (PT R K0 K2 c3 F S S' h gs)) .next
   (R' {l with half:=some (num h),kept:=some (num a),truths:=some (.cell 10),k:=some (num k),j:=j',follows:=f',told:=t'} (PT R K0 K2 c3 F S S' h gs))
 | [],l,_=>⟨l.j,l.follows,l.told,.nil⟩
 | j::js,l,hj=>by
  refine xa (hj j mem_cons_self) λhjn hft=>?_
  have ln:=P2 (d:=d+2) hR (PT R K0 K2 c3 F S S' h gs) rfl
  have mod1:A7 h R.length k < R.length:=mod_lt _ (by exact lt_of_le_of_lt (zero_le _) ‹_›)
  have mod2:A7 h R.length j < R.length:=mod_lt _ (by lia)
  have tk:=Ov (K0:=K0) (K2:=K2) (c3:=c3) (F:=F) (S:=S) (S':=S') (h:=h) (gs:=gs) hR hk
  have tj:=Ov (K0:=K0) (K2:=K2) (c3:=c3) (F:=F) (S:=S) (S':=S') (h:=h) (gs:=gs) hR hjn
  have lk:=Vx (K0:=K0) (K2:=K2) (F:=F) (S:=S) (S':=S') (h:=h) (gs:=gs) hR h3 hk
  have lo:=Vx (K0:=K0) (K2:=K2) (F:=F) (S:=S) (S':=S') (h:=h) (gs:=gs) hR h3 mod2
  have t8:tm (De R j)≤65535:=L2 (hR.lt _ (Ir hjn))
  refine Ot (Vn hR h3 hk js {l with j:=some (num j),follows:=some (.d (.bool (fo R a k j))),told:=some (num ((leads k >>> j &&& 1)+(leads k >>> A7 h R.length k &&& 1)+(leads (A7 h R.length j) >>> j &&& 1)))} λx hx=>hj x (mem_cons_of_mem _ hx)) λj' f' t' ih=>?_
  refine⟨j',f',t',.next (σ₁:=R' {l with half:=some (num h),kept:=some (num a),truths:=some (.cell 10),k:=some (num k),j:=some (num j)} (PT R K0 K2 c3 F S S' h gs)) rfl ?_ ih⟩
  apply Azg (σ₁:=R' {l with half:=some (num h),kept:=some (num a),truths:=some (.cell 10),k:=some (num k),j:=some (num j),follows:=some (.d (.bool (fo R a k j)))} (PT R K0 K2 c3 F S S' h gs))
   (Azi (Azr (Azn (Azn (Azs (by exact Dc rfl) (Azf rfl) (Azf rfl) tk) (Azf rfl) (Dg _ _ _)) (Azn Azo (Azs (by exact Dc rfl) (Azf rfl) (Azf rfl) tj) (Eh _ t8 _)) (Dg _ _ _)) Azo (D9 _ 0 _)) rfl)
  apply Azg (σ₁:=R' {l with half:=some (num h),kept:=some (num a),truths:=some (.cell 10),k:=some (num k),j:=some (num j),follows:=some (.d (.bool (fo R a k j))),told:=some (num (leads k >>> j &&& 1))} (PT R K0 K2 c3 F S S' h gs))
   (Azi (Azn (Azn (Azs (by exact Dc rfl) (Azf rfl) (Azf rfl) lk) (Azf rfl) (O2 _ _ _)) Azo (Dg _ 1 _)) rfl)
  apply Azg (σ₁:=R' {l with half:=some (num h),kept:=some (num a),truths:=some (.cell 10),k:=some (num k),j:=some (num j),follows:=some (.d (.bool (fo R a k j))),told:=some (num ((leads k >>> j &&& 1)+(leads k >>> A7 h R.length k &&& 1)))} (PT R K0 K2 c3 F S S' h gs))
   (Azi (Azn (Azf rfl) (Azn (Azn (Azs (by exact Dc rfl) (Azf rfl) (Azf rfl) lk) (Azn (Azn (Azf rfl) (Azf rfl) (Bu _ _ _)) (Azp rfl (Azf rfl) (Azh (Azf rfl) Azj) ln) (Ck _ _ (by lia) _)) (O2 _ _ _)) Azo (Dg _ 1 _)) (Bu _ _ _)) rfl)
  apply Azg (σ₁:=R' {l with half:=some (num h),kept:=some (num a),truths:=some (.cell 10),k:=some (num k),j:=some (num j),follows:=some (.d (.bool (fo R a k j))),told:=some (num ((leads k >>> j &&& 1)+(leads k >>> A7 h R.length k &&& 1)+(leads (A7 h R.length j) >>> j &&& 1)))} (PT R K0 K2 c3 F S S' h gs))
   (Azi (Azn (Azf rfl) (Azn (Azn (Azs (by exact Dc rfl) (Azf rfl) (Azn (Azn (Azf rfl) (Azf rfl) (Bu _ _ _)) (Azp rfl (Azf rfl) (Azh (Azf rfl) Azj) ln) (Ck _ _ (by lia) _)) lo) (Azf rfl) (O2 _ _ _)) Azo (Dg _ 1 _)) (Bu _ _ _)) rfl)
  refine Azg (Azq (c:=false) (Azt (Azr (Azf rfl) (Azr (Azf rfl) Azo (Alm _ 0 _)) ?_)) Azm) Azm
  show some (!(fo R a k j==to R.length h leads k j))=_
  rw[hft];simp
theorem Rc(hR:Do R)(h3:c3.items=Al R.length leads):∀(ks:List Nat) (l:LR),(∀k∈ks,k < R.length∧∀j < R.length,fo R a k j=to R.length h leads k j)→∃l',Fr (d+3) sR (Bh (bR 13)) (B1 (bR 13)) (Ac ks)
   (R' {l with half:=some (num h),kept:=some (num a),truths:=some (.cell 10)} (PT R K0 K2 c3 F S S' h gs)) .next (R' l' (PT R K0 K2 c3 F S S' h gs))
 | [],l,_=>⟨{l with half:=some (num h),kept:=some (num a),truths:=some (.cell 10)},.nil⟩
 | k::ks,l,hk=>by
  have hn:=hR.len
  refine xa (hk k mem_cons_self) λhkn hft=>?_
  have ln:=P2 (d:=d+2) hR (PT R K0 K2 c3 F S S' h gs) rfl
  refine Ot (Vn (d:=d) (h:=h) (K0:=K0) (K2:=K2) (F:=F) (S:=S) (S':=S') (gs:=gs) hR h3 hkn (List.range R.length) l λj hj=>⟨mem_range.mp hj,hft j (mem_range.mp hj)⟩) λj' f' t' f1=>?_
  refine xe (Rc hR h3 ks {l with k:=some (num k),j:=j',follows:=f',told:=t'} λx hx=>hk x (mem_cons_of_mem _ hx)) λl' ih=>?_
  exact⟨l',.next (σ₁:=R' {l with half:=some (num h),kept:=some (num a),truths:=some (.cell 10),k:=some (num k)} (PT R K0 K2 c3 F S S' h gs)) rfl (Azg (Sx.for (by exact nfb rfl) (Azp rfl (Azf rfl) (Azh (Azp rfl (Azf rfl) (Azh (Azf rfl) Azj) ln) Azj) (Cl.range (by lia) _)) (Dz (by lia) _) f1) Azm) ih⟩
end
section
variable {m:Nat} {rs:List Rl} {gs:List (List Nat)} {leads:Nat→Nat}
theorem Al8(hR:Do R)(hr:∀r∈rs,C2 r)(hin:∀p∈B2 rs,p.1∈R∧p.2∈R)(hv:v < 16):(B4 rs).testBit v=true↔Kp (Ca R (B2 rs)) (λv x=>Tr v (De R x)) v:=by
 rw[Ac8 hr hv]
 constructor
 ·intro h x y hy
  refine Aj (Kl hy) λb h1 z=>?_
  subst z
  have:=h _ h1
  show Tr v (De R x)=true→Tr v (De R (R.idxOf b))=true
  rw[Hj (hin _ h1).2]
  exact this
 ·intro h p hp
  refine xa (hin p hp) λh1 h2=>?_
  have h3:=h (R.idxOf p.1) (R.idxOf p.2) (V9 (by rw[Hj h1];exact hp))
  have h3:Tr v (De R (R.idxOf p.1))=true→Tr v (De R (R.idxOf p.2))=true:=h3
  rwa [Hj h1,Hj h2]at h3
theorem Mb:Gg n h gs=[]↔∀x < n,¬J4 h n gs x:=by
 unfold Gg
 rw[filter_eq_nil_iff]
 constructor
 ·intro H x hx ht
  exact H x (mem_range.mpr hx) (beq_iff_eq.mpr ht)
 ·intro H x hx ht
  exact H x (mem_range.mp hx) (eq_of_beq ht)
theorem Jh{h mk v:Nat}:∀(ps:List (Nat×Nat)) (c:Nat),(Kn R h gs mk ps c).testBit v=true→c.testBit v=true∧∀p∈ps,inT R h gs p=true→mk.testBit v=true
 | [],c,h=>⟨h,λp hp=>by exact nomatch hp⟩
 | p::ps,c,H=>by
  refine xa (Jh ps _ H) λh1 h2=>?_
  by_cases hi:inT R h gs p=true
  ·have h1:(if inT R h gs p then c &&& mk else c).testBit v=true:=h1
   rw[if_pos hi,testBit_and,Bool.and_eq_true]at h1
   refine⟨h1.1,λq hq hqi=>?_⟩
   exact h1.2
  ·have h1:(if inT R h gs p then c &&& mk else c).testBit v=true:=h1
   rw[if_neg hi]at h1
   refine⟨h1,λq hq hqi=>?_⟩
   rcases mem_cons.mp hq with rfl | hq
   ·exact absurd hqi hi
   ·exact h2 q hq hqi
theorem F7:∀(rs:List Rl) (c:Nat),(Gx R h gs rs c).testBit v=true→c.testBit v=true∧∀r∈rs,∀p∈As r,inT R h gs p=true→(E5 r).testBit v=true
 | [],c,h=>⟨h,λp hp=>by exact nomatch hp⟩
 | r::rs,c,H=>by
  refine xa (F7 rs _ H) λh1 h2=>?_
  refine xa (Jh _ _ h1) λh3 h4=>?_
  refine⟨h3,λq hq p hp hi=>?_⟩
  rcases mem_cons.mp hq with rfl | hq
  ·exact h4 p hp hi
  ·exact h2 q hq p hp hi
theorem Tb{a b:Nat}(h:∀v,a.testBit v=true→b.testBit v=true):a≤b:=by
 have e:a &&& b=a:=eq_of_testBit_eq λv=>by
  rw[testBit_and]
  cases hv:a.testBit v with
  | false=>rfl
  | true=>rw[h v hv];rfl
 rw[←e];exact and_le_right
structure Ans(R:List Nat)(h:Nat)(gs:List (List Nat))(leads:Nat→Nat)(rs:List Rl):Prop where
 tor:(B4 rs==0) = !decide (Gg R.length h gs=[])
 cla:B4 rs=0→Gx R h gs rs 65535=0
 set:B4 rs≠0→Ep ((List.range h).map (F3 R h gs)) 65535 &&& B4 rs=Ep ((List.range h).map (F3 R h gs)) 65535
 tol:B4 rs≠0→∀k < R.length,∀j < R.length,fo R (B4 rs) k j=to R.length h leads k j
theorem Aju(hm:m < 16)(hr:∀r∈rs,C2 r)(hin:Qq m rs)(D:Mo (Ab m).length (Ca (Ab m) (B2 rs)) gs leads):Ans (Ab m) (Cj m).length gs leads rs:=by
 have S:=Aid hm hr hin
 have hR:=Pj hm
 have kt:=Xh S D
 have kp:∀{v},v < 16→((B4 rs).testBit v=true↔Kp (Ca (Ab m) (B2 rs)) (λv x=>Tr v (De (Ab m) x)) v):=λhv=>Al8 hR hr hin hv
 have kz:B4 rs=0↔Gg (Ab m).length (Cj m).length gs≠[]:=by
  rw[Yp,Ne,Mb,←kt]
  constructor
  ·intro h w
   refine Aj w λv h1 h2=>?_
   clear w
   exact h ⟨v,h1,(kp h1).mpr h2⟩
  ·intro h w
   refine Aj w λv h1 h2=>?_
   clear w
   exact h ⟨v,h1,(kp h1).mp h2⟩
 have nt:B4 rs≠0→∀x < (Ab m).length,¬J4 (Cj m).length (Ab m).length gs x:=λh=>by
  rw[←Mb]
  exact Classical.byContradiction λe=>h (kz.mpr e)
 refine⟨?_,λh0=>?_,λh0=>?_,λh0 k hk j hj=>?_⟩
 ·rw[Bool.eq_iff_iff]
  simp only[beq_iff_eq,Bool.not_eq_true',decide_eq_false_iff_not]
  exact kz
 ·
  have ht:=kz.mp h0
  rw[Ne,Mb]at ht
  have:∃x,x < (Ab m).length∧J4 (Cj m).length (Ab m).length gs x:=by
   apply Classical.byContradiction
   intro hno
   exact ht λx hx hT=>hno ⟨x,hx,hT⟩
  refine Aj this λk hk hT=>?_
  clear this
  refine I1 (Tb λv hv=>(F7 rs _ hv).1) λv hv=>?_
  cases hc:(Gx (Ab m) (Cj m).length gs rs 65535).testBit v with
  | false=>rfl
  | true=>
   exfalso
   refine Te S D hk hT hv λx y hy hTx hxy=>?_
   refine Aj (Kl hy) λb h1 z=>?_
   subst z
   refine Aj (mem_flatMap.mp h1) λr h2 h3=>?_
   refine xa (S.lt _ _ hy) λhxn hyn=>?_
   have hi:inT (Ab m) (Cj m).length gs (De (Ab m) x,b)=true:=by
    unfold inT
    simp only[Ue hR.nd hxn,Bool.and_eq_true,beq_iff_eq]
    refine⟨?_,hxy⟩
    rw[contains_iff_mem]
    exact mem_filter.mpr ⟨mem_range.mpr hxn,beq_iff_eq.mpr hTx⟩
   have h4:=(K3 (hr r h2) hv).mp ((F7 rs _ hc).2 r h2 _ h3 hi) _ h3
   show Tr v (De (Ab m) x)=true→Tr v (De (Ab m) ((Ab m).idxOf b))=true
   rw[Hj (hin _ h1).2]
   exact h4
 ·
  refine eq_of_testBit_eq λv=>?_
  rw[testBit_and]
  cases hs:(Ep ((List.range (Cj m).length).map (F3 (Ab m) (Cj m).length gs)) 65535).testBit v with
  | false=>rfl
  | true=>
   rw[Bool.true_and]
   refine xa ((H7 v _ _).mp hs) λh1 h2=>?_
   rw[Ql,decide_eq_true_eq]at h1
   rw[kp h1]
   have two:=S.two
   have lo:∀k,k < (Cj m).length→Tr v (De (Ab m) k)=first (Cj m).length (Ab m).length gs k:=by
    intro k hk
    have hkn:k < (Ab m).length:=by omega
    have h3:=h2 _ (mem_map.mpr ⟨k,mem_range.mpr hk,rfl⟩)
    have ho:A7 (Cj m).length (Ab m).length k=k+(Cj m).length:=mod_eq_of_lt (by omega)
    unfold F3 at h3
    unfold first
    rw[ho]
    by_cases hc:Ag gs k < Ag gs (k+(Cj m).length)
    ·rw[if_pos hc]at h3
     rw[decide_eq_true hc];exact h3
    ·rw[if_neg hc]at h3
     rw[decide_eq_false hc]
     have h4:=S.neg v k h1 hkn
     have h4:Tr v (De (Ab m) (A7 (Cj m).length (Ab m).length k)) = !Tr v (De (Ab m) k):=h4
     rw[ho]at h4
     have h5:Tr v (De (Ab m) (k+(Cj m).length))=true:=h3
     rw[h5]at h4
     cases hT:Tr v (De (Ab m) k)with
     | false=>rfl
     | true=>rw[hT]at h4;exact J3 h4
   refine Td S D (nt h0) λx hx=>?_
   show Tr v (De (Ab m) x)=_
   by_cases hxh:x < (Cj m).length
   ·exact lo x hxh
   ·have ho:A7 (Cj m).length (Ab m).length x < (Cj m).length:=by
     unfold A7
     rw[show x+(Cj m).length=(x - (Cj m).length)+(Ab m).length by omega,add_mod_right,mod_eq_of_lt (by omega)]
     omega
    have h3:=lo _ ho
    rw[Iz S (nt h0) x hx]at h3
    have h4:Tr v (De (Ab m) (A7 (Cj m).length (Ab m).length x)) = !Tr v (De (Ab m) x):=S.neg v x h1 hx
    rw[h4]at h3
    cases e1:Tr v (De (Ab m) x)<;>cases e2:first (Cj m).length (Ab m).length gs x<;>simp_all
 ·
  have fi:=Q7 S D (nt h0) hk hj
  have oj:=S.op_lt hj
  have ok:=S.op_lt hk
  have ht:to (Ab m).length (Cj m).length leads k j=true↔Ej (Ca (Ab m) (B2 rs)) k j∨Ej (Ca (Ab m) (B2 rs)) k (A7 (Cj m).length (Ab m).length k)∨Ej (Ca (Ab m) (B2 rs)) (A7 (Cj m).length (Ab m).length j) j:=by
   unfold to
   rw[decide_eq_true_eq,Po,Po,Po,←D.leads k j hk,←D.leads k _ hk,←D.leads _ j oj]
   cases (leads k).testBit j<;>cases (leads k).testBit (A7 (Cj m).length (Ab m).length k)<;>cases (leads (A7 (Cj m).length (Ab m).length j)).testBit j<;>simp
  rw[Bool.eq_iff_iff,ht,←fi]
  have hj8:De (Ab m) j < 8:=hR.lt _ (Ir hj)
  have bits:∀v,v < 16→(tm (De (Ab m) k) &&& B4 rs &&& (65535 - tm (De (Ab m) j))).testBit v=(Tr v (De (Ab m) k)&&(B4 rs).testBit v && !Tr v (De (Ab m) j)):=λv hv=>by
   rw[testBit_and,testBit_and,Aga (L2 hj8) hv];rfl
  unfold fo
  rw[beq_iff_eq]
  constructor
  ·intro hz v hv hkp hT
   have:=bits v hv
   rw[hz,zero_testBit,(kp hv).mpr hkp]at this
   have hT:Tr v (De (Ab m) k)=true:=hT
   show Tr v (De (Ab m) j)=true
   cases e:Tr v (De (Ab m) j)with
   | true=>rfl
   | false=>rw[hT,e]at this;exact Ff this
  ·intro H
   refine I1 (le_trans and_le_left (le_trans and_le_right (U2 rs))) λv hv=>?_
   rw[bits v hv]
   cases e1:Tr v (De (Ab m) k)with
   | false=>rfl
   | true=>
    cases e2:(B4 rs).testBit v with
    | false=>rfl
    | true=>
     have:Tr v (De (Ab m) j)=true:=H v hv ((kp hv).mp e2) e1
     rw[this];rfl
end
section
variable {d m:Nat} {rs:List Rl} {gs:List (List Nat)} {leads:Nat→Nat}
theorem Ih(h:cel[i]? = some c)(hl:c.items.length=n)(hn:n≤1000):Cl (d+1) (.builtin "len") [.cell i] cel (num n) cel:=by
 have:=Cl.len (d:=d) (a:=.cell i) (cel:=cel) (l:=c.items) (by simp only[Aw,h,map_some]) (At (by lia))
 rw[hl]at this
 exact this
theorem Ac3(hm:m < 16)(hr:∀r∈rs,C2 r)(hin:Qq m rs)(D:Mo (Ab m).length (Ca (Ab m) (B2 rs)) gs leads)(hgl:gs.length≤8)
  (h0:c0.items=rs.map Ak) (h1:c1.items=Ap ((Ab m).map lit)) (h2:c2.items=Bv gs) (h3:c3.items=Al (Ab m).length leads):∃cel',Cl (d+4) (.ref 376) [.cell 0,.cell 1,.cell 2,.cell 3] [c0,c1,c2,c3] (.d (.bool true)) cel':=by
 have hR:=Pj hm
 have hn:=hR.len
 have two:=P0 m
 have ans:=Aju hm hr hin D
 have hitem:(Ap ((Ab m).map lit)).length=(Ab m).length:=by rw[A4,length_map]
 let n:=(Ab m).length
 let h:=(Cj m).length
 let K0:Ad:=.f (rs.map Ak)
 let K1:Ad:=.f (Ap ((Ab m).map lit))
 have i0:∀a b c,Ai [c0,a,b,c] (.cell 0)=some (rs.map Ak,[K0,a,b,c]):=λa b c=>by
  show some (c0.items,[Ad.f c0.items,a,b,c])=_
  rw[h0]
 have i1:Ai [K0,c1,c2,c3] (.cell 1)=some (Ap ((Ab m).map lit),[K0,K1,c2,c3]):=by
  show some (c1.items,[K0,.f c1.items,c2,c3])=_
  rw[h1]
 refine xe (Oc (d:=d+1) (cel:=[K0,c1,c2,c3]) rs 65535 {} hr) λru f1=>?_
 refine xe (Mc (d:=d+1) (e:=Dn (bR 3)) rfl 4 [K0,K1,c2,c3] [] rfl (Ap ((Ab m).map lit)) [] none (by rw[hitem];simp;exact le_add_left_of_le ‹_›)) λv3 f3=>?_
 rw[Ro (Ab m).length _ hitem,nil_append]at f3
 have hlt:∀G∈gs,∀x∈G,x < (Ab m).length:=λG hG x hx=>(D.mem x).mpr (mem_flatten.mpr ⟨G,hG,hx⟩)
 refine Op (Qc (d:=d+1) (c0:=K0) (c1:=K1) (c3:=c3) hn h2 hgl hlt (l:={kept:=some (num (B4 rs)),rule:=ru,half:=some (num h)}) gs 0 (λ_=>0) none none rfl) λgv kv f4=>?_
 rw[Qh λx hx=>Yo D hx,←range_eq_range']at f4
 let l4:LR:={kept:=some (num (B4 rs)),rule:=ru,half:=some (num h),turn:=some (.cell 4),g:=gv,k:=kv}
 have s5:=Sg (d:=d+1) (K0:=K0) (K1:=K1) (c3:=c3) (T:=.m (Al (Ab m).length (Ag gs))) hn h2 hitem D.nd (λx=>(D.mem x).symm) (l:=l4)
 have s6:=Tm (d:=d+1) (h:=h) (K0:=K0) (K1:=K1) (K2:=.f (Bv gs)) (c3:=c3) (F:=.m (Ac gs.flatten)) (S:=.m (Ac (List.range n))) (S':=.m (Ac (List.range n))) (gs:=gs) hn hitem (l:=l4) rfl rfl
 have s7:=Zj (d:=d+1) (K0:=K0) (K1:=K1) (K2:=.f (Bv gs)) (c3:=c3) (F:=.m (Ac gs.flatten)) (S:=.m (Ac (List.range n))) (S':=.m (Ac (List.range n))) ans.tor (l:={l4 with torn:=some (.cell 8)}) rfl rfl
 have pre:∀{loc':List (Option AV)} {cel':List Ad},Xs (d+3) sR ((Ft (st 82)).drop 8) (R' {l4 with torn:=some (.cell 8)} (P8 K0 K1 (.f (Bv gs)) c3 (.m (Ac gs.flatten)) (.m (Ac (List.range n))) (.m (Ac (List.range n))) n h gs [.m []])) (.ret (.d (.bool true))) ⟨loc',cel'⟩→
   Cl (d+4) (.ref 376) [.cell 0,.cell 1,.cell 2,.cell 3] [c0,c1,c2,c3] (.d (.bool true)) cel':=by
  intro loc' cel' hx
  apply Cl.ret (a:=376) (loc:=LR.loc {}) rfl rfl rfl
  apply Azg (σ₁:=R' {kept:=some (num 65535)} [c0,c1,c2,c3]) (Azi Azo rfl)
  apply Azg (Sx.for (by exact nfa rfl) (Azf rfl) (i0 _ _ _) f1)
  apply Azg (σ₁:=R' {kept:=some (num (B4 rs)),rule:=ru,half:=some (num h)} [K0,c1,c2,c3])
  ·have e:(Ab m).length / 2=h:=by show _=(Cj m).length;lia
   exact Azi (Azn (Azp rfl (Azf rfl) (Azh (Azf rfl) Azj) (Ih (c:=c1) (n:=(Ab m).length) rfl (by rw[h1];exact hitem) (by lia))) Azo ((Abh _ _).trans (by rw[e]))) rfl
  apply Azg (σ₁:=R' {kept:=some (num (B4 rs)),rule:=ru,half:=some (num h),turn:=some (.cell 4)} [K0,K1,c2,c3,.m (Al (Ab m).length λ_=>0)])
   (Azi (Ev.lc rfl (Azf rfl) i1 rfl rfl f3) rfl)
  apply Azg (Sx.for (by exact nfb rfl) (Azp rfl (Azf rfl) (Azh (Azp rfl (Azf rfl) (Azh (Azf rfl) Azj) (Ih (c:=c2) (n:=gs.length) rfl (by rw[h2];unfold Bv;rw[length_map]) (by exact le_trans ‹_› (by decide)))) Azj) (Cl.range (by lia) _)) (Dz (by lia) _) f4)
  apply Azg s5
  apply Azg s6
  exact Azg s7 hx
 by_cases hz:B4 rs=0
 ·obtain⟨l',q',hs⟩:=Qm (d:=d) (h:=h) (K0:=K0) (K1:=K1) (K2:=.f (Bv gs)) (c3:=c3) (F:=.m (Ac gs.flatten)) (S:=.m (Ac (List.range n))) (S':=.m (Ac (List.range n))) (gs:=gs) hR rfl (rs:=rs) rfl
   (λr h1=>⟨hr r h1,λp hp=>hin p (mem_flatMap.mpr ⟨r,h1,hp⟩)⟩) (l:={l4 with torn:=some (.cell 8)}) (by show some (num (B4 rs))=_;rw[hz]) rfl rfl (ans.cla hz) [.m []]
  exact⟨q',pre (Xs.ret hs)⟩
 ·let l7:LR:={l4 with torn:=some (.cell 8)}
  have hsk:Sx (d+3) sR (bR 8) (R' l7 (P8 K0 K1 (.f (Bv gs)) c3 (.m (Ac gs.flatten)) (.m (Ac (List.range n))) (.m (Ac (List.range n))) n h gs [.m []])) .next (R' l7 (P8 K0 K1 (.f (Bv gs)) c3 (.m (Ac gs.flatten)) (.m (Ac (List.range n))) (.m (Ac (List.range n))) n h gs [.m []])):=
   Azq (c:=false) (Azt (Azr (Azf rfl) Azo ((D9 _ 0 _).trans (by rw[beq_false_of_ne hz])))) Azm
  refine xe (Oh (d:=d) (h:=h) (K0:=K0) (K1:=K1) (K2:=.f (Bv gs)) (c3:=c3) (F:=.m (Ac gs.flatten)) (S:=.m (Ac (List.range n))) (S':=.m (Ac (List.range n))) (gs:=gs) hR (Ab m) [] none hR.lt (by simp;exact le_add_left_of_le ‹_›)) λv9 f9=>?_
  refine xe (Se (d:=d) (h:=h) (K0:=K0) (K2:=.f (Bv gs)) (c3:=c3) (F:=.m (Ac gs.flatten)) (S:=.m (Ac (List.range n))) (S':=.m (Ac (List.range n))) (gs:=gs) hR two.symm (List.range h) 65535 l7 (λj hj=>mem_range.mp hj)) λk11 f11=>?_
  let st:=Ep ((List.range h).map (F3 (Ab m) h gs)) 65535
  refine xe (Rc (d:=d) (h:=h) (K0:=K0) (K2:=.f (Bv gs)) (F:=.m (Ac gs.flatten)) (S:=.m (Ac (List.range n))) (S':=.m (Ac (List.range n))) (gs:=gs) hR h3 (a:=B4 rs) (List.range n) {l7 with truths:=some (.cell 10),setting:=some (num st),k:=k11} (λk hk=>⟨mem_range.mp hk,λj hj=>ans.tol hz k (mem_range.mp hk) j hj⟩)) λl13 f13=>?_
  refine⟨PT (Ab m) K0 (.f (Bv gs)) c3 (.m (Ac gs.flatten)) (.m (Ac (List.range n))) (.m (Ac (List.range n))) h gs,pre (loc':=l13.loc) (Azg hsk ?_)⟩
  apply Azg (σ₁:=R' {l7 with truths:=some (.cell 10)} (PT (Ab m) K0 (.f (Bv gs)) c3 (.m (Ac gs.flatten)) (.m (Ac (List.range n))) (.m (Ac (List.range n))) h gs)) (Azi (Ev.lc rfl (Azf rfl) rfl rfl rfl f9) rfl)
  apply Azg (σ₁:=R' {l7 with truths:=some (.cell 10),setting:=some (num 65535)} (PT (Ab m) K0 (.f (Bv gs)) c3 (.m (Ac gs.flatten)) (.m (Ac (List.range n))) (.m (Ac (List.range n))) h gs)) (Azi Azo rfl)
  have hse:(st &&& B4 rs==st)=true:=beq_iff_eq.mpr (ans.set hz)
  have hh:h < 1000:=by show(Cj m).length < 1000;lia
  apply Azg (Sx.for (by exact nfb rfl) (Azp rfl (Azf rfl) (Azh (Azf rfl) Azj) (Cl.range hh _)) (Dz hh _) f11)
  apply Azg (Azq (c:=false) (Azt (Azr (Azn (Azf rfl) (Azf rfl) (Dg _ _ _)) (Azf rfl) ((Al7 _ _ _).trans (congrArg (λb:Bool=>some (!b)) hse)))) Azm)
  have ln:=P2 (d:=d+2) hR (PT (Ab m) K0 (.f (Bv gs)) c3 (.m (Ac gs.flatten)) (.m (Ac (List.range n))) (.m (Ac (List.range n))) h gs) rfl
  apply Azg (Sx.for (by exact nfb rfl) (Azp rfl (Azf rfl) (Azh (Azp rfl (Azf rfl) (Azh (Azf rfl) Azj) ln) Azj) (Cl.range (by lia) _)) (Dz (by lia) _) f13)
  exact Xs.ret (Sx.ret Ev.bool)
end
end
noncomputable section
open PySem PyProof.Rows PySem.Builtin.Str PySem.StrLaws
noncomputable abbrev tx(l:List Nat):Str:=⟨l.toArray⟩
theorem T3(a b:List Nat):tx a++tx b=tx (a++b):=by
 show Str.mk (a.toArray++b.toArray)=_
 rw[append_toArray]
theorem Dr(l:List Nat):(tx l).length=l.length:=by
 show l.toArray.size=_
 simp
theorem Z4{a b n:Nat}(hab:a≤b)(ha:a≤n):strSliceIndices (some (a:Int)) (some (b:Int)) 1 n=(List.range (min b n - a)).map (λk=>a+k):=by
 rw[←strSliceIndices_plain (a:=a) (b:=min b n) (len:=n) (by lia) (by lia)]
 have h1:¬((a:Int) < 0):=by lia
 have h2:¬((b:Int) < 0):=by lia
 have h3:¬(((min b n:Nat):Int) < 0):=by lia
 have e:max (0:Int) (min (b:Int) (n:Int))=max (0:Int) (min ((min b n:Nat):Int) (n:Int)):=(le_total b n).elim (λh=>by rw[min_eq_left h]) λh=>by rw[min_eq_right h,Int.min_eq_right (Int.ofNat_le.mpr h),Int.min_self]
 simp only[strSliceIndices,h1,h2,h3,if_false,show((1:Int) > 0)=True from by simp,if_true,e]
theorem Ads(T:List Nat){a b:Nat}(hab:a≤b)(ha:a≤T.length):Txt.slice (tx T) (some (a:Int)) (some (b:Int))=tx ((T.drop a).take (b - a)):=by
 have hl:(tx T).length=T.length:=Dr T
 have hidx:=Z4 (n:=(tx T).length) hab (by rw[hl];exact ha)
 have hf:((List.range (min b (tx T).length - a)).map (λk=>a+k)).filterMap ((tx T).cps[·]?)=(T.drop a).take (min b (tx T).length - a):=by
  have h:=sliced_plain (tx T) (a:=a) (b:=min b (tx T).length) (by rw[hl];lia) (by lia)
  rw[strSliceIndices_plain (by rw[hl];lia) (by lia)]at h
  exact h
 have htk:(T.drop a).take (min b (tx T).length - a)=(T.drop a).take (b - a):=by
  rw[hl]
  by_cases h:b≤T.length
  ·rw[min_eq_left h]
  ·rw[min_eq_right (by lia),take_of_length_le (by simp),take_of_length_le (by simp;lia)]
 unfold Txt.slice
 rw[hidx]
 split
 ·rename_i h
  simp only[beq_self_eq_true,Bool.true_and,length_map,length_range,beq_iff_eq]at h
  rw[hl]at h
  have ha0:a=0∨T=[]:=by
   by_cases hT:T=[]
   ·exact .inr hT
   ·have:=length_pos_iff.mpr hT
    left;lia
  rcases ha0 with rfl | rfl
  ·rw[drop_zero,take_of_length_le (by lia)]
  ·simp
 ·rw[hf,htk]
theorem Am4(T:List Nat)(hab:a≤b)(ha:a≤T.length)(hl:T.length≤10000)(σ:St):cut (.d (.str (tx T))) (some (a:Int)) (some (b:Int)) σ=some (.d (.str (tx ((T.drop a).take (b - a)))),σ):=by
 show(Gi (fits (tx T).length) (Txt.slice (tx T) (some (a:Int)) (some (b:Int)))).map _=_
 rw[Dr,At (by lia),Ads T hab ha];rfl
theorem Va(T:List Nat)(h:T[i]? = some c)(hl:T.length≤1000)(cel:List Ad):item (.d (.str (tx T))) (num i) cel=some (.d (.str (tx [c]))):=by
 have hlt:=(List.getElem?_eq_some_iff.mp h).1
 show(((Ef (i:Int) (tx T).cps.size).bind λk=>((tx T).cps.toList[k]?).map λc=>D.str ⟨#[c]⟩)).map AV.d=_
 have e:(tx T).cps.size=T.length:=by simp
 rw[e,E0 hlt hl]
 simp[h]
theorem Fe(a b:List Nat)(h:a.length+b.length≤10000)(σ:St):binop .Add (.d (.str (tx a))) (.d (.str (tx b))) σ=some (.d (.str (tx (a++b))),σ):=by
 show(Gi (fits ((tx a).length+(tx b).length)) (tx a++tx b)).map _=_
 rw[Dr,Dr,At (by lia),T3];rfl
noncomputable def Ed(sep:List Nat):List (List Nat)→List Nat
 | []=>[]
 | [x]=>x
 | x::r=>x++sep++Ed sep r
theorem Agb(sep:List Nat)(ls:List (List Nat)):Txt.join (tx sep) (ls.map tx)=tx (Ed sep ls):=by
 show Builtin.Str.glued (tx sep) (ls.map tx)=_
 rw[glued_eq_join]
 induction ls with
 | nil=>rfl
 | cons x r ih=>
  induction r using List.casesOn with
  | nil=>rfl
  | cons y r=>
   show tx x++tx sep++Str.join (tx sep) ((y::r).map tx)=_
   rw[ih,T3,T3]
   rfl
noncomputable def Cs:List Nat:=[115,83,383,119826,116,84,119827,119879,64261,64262,223,173,124,45,62,61,33,94,60,38,126,59,8203,65024]
noncomputable def Aek:List (Nat×List Nat):=[(83,[115]),(383,[115]),(119826,[115]),(84,[116]),(119827,[116]),(119879,[116]),(64261,[115,116]),(64262,[115,116]),(223,[115,115]),(173,[]),(8203,[]),(65024,[])]
noncomputable def Fb(c:Nat):List Nat:=(Aek.lookup c).getD [c]
noncomputable def Aao(c:Nat):Bool:=c==173||c==8203||c==65024
theorem As9(cel:List Ad):∀c∈Cs,Cl 2 (.ref 83) [.d (.str (tx [c]))] cel (.d (.bool (Aao c))) cel:=by
 delta Cs
 repeat (refine forall_mem_cons.2 ⟨⟨30,by kernel_rfl⟩,?_⟩)
 exact λ_ h=>absurd h not_mem_nil
theorem Avq(cel:List Ad):∀c∈Cs,Aao c=false→Cl 2 (.ref 129) [.d (.str (tx [c]))] cel (.d (.str (tx (Fb c)))) cel:=by
 delta Cs
 repeat (first | refine forall_mem_cons.2 ⟨λh=>J3 h,?_⟩ | refine forall_mem_cons.2 ⟨λ_=>⟨30,by kernel_rfl⟩,?_⟩)
 exact λ_ h=>absurd h not_mem_nil
end
noncomputable section
open PySem PyProof.Rows
noncomputable def sgD(T:List Nat):List D:=T.map λc=>.str (tx [c])
theorem Ac7(T:List Nat)(cel:List Ad):Ai cel (.d (.str (tx T)))=some (sgD T,cel):=by
 show some (T.toArray.toList.map (λc=>D.str ⟨#[c]⟩),cel)=_
 rw[toList_toArray]
 rfl
theorem Ahh(hc:c∈Cs)(hb:Aao c=true):Fb c=[]:=(by decide +kernel:∀c∈Cs,Aao c=true→Fb c=[]) c hc hb
theorem Aen(c:Nat):(Fb c).length≤2:=by
 delta Fb
 cases h:Aek.lookup c with
 | none=>exact le_succ 1
 | some l=>exact(by decide:∀p∈Aek,p.2.length≤2) (c,l) (Db h)
theorem Mu:∀(T out:List Nat) (sg:Option AV),(∀c∈T,c∈Cs)→out.length+2*T.length≤5000→∃sg',Fr 2 (Ke (st 76)) (Bh (sub (Ft (st 76)) 1)) (B1 (sub (Ft (st 76)) 1)) (sgD T) ⟨[some a,some (.d (.str (tx out))),sg,none,none],cel⟩ .next ⟨[some a,some (.d (.str (tx (out++T.flatMap Fb)))),sg',none,none],cel⟩
 | [],out,sg,_,_=>by
  simp only[flatMap_nil,append_nil]
  exact⟨sg,.nil⟩
 | c::T,out,sg,h,hl=>by
  have hc:=h c mem_cons_self
  simp only[length_cons]at hl
  have hp:=Aen c
  obtain⟨sg',ih⟩:=Mu T (out++Fb c) (some (.d (.str (tx [c])))) (λx hx=>h x (mem_cons_of_mem _ hx)) (by rw[length_append];lia)
  rw[append_assoc,←flatMap_cons]at ih
  have hb:=As9 cel c hc
  refine⟨sg',.next (σ₁:=⟨[some a,some (.d (.str (tx out))),some (.d (.str (tx [c]))),none,none],cel⟩) rfl (Azg (σ₁:=⟨[some a,some (.d (.str (tx (out++Fb c)))),some (.d (.str (tx [c]))),none,none],cel⟩) ?_ Azm) ih⟩
  cases hb1:Aao c with
  | true=>
   rw[hb1]at hb
   rw[Ahh hc hb1,append_nil]
   exact Azq (c:=!true) (Tv.not (Tv.call (Azp rfl (Azf rfl) (Azh (Azf rfl) Azj) hb))) Azm
  | false=>
   rw[hb1]at hb
   exact Azq (c:=!false) (Tv.not (Tv.call (Azp rfl (Azf rfl) (Azh (Azf rfl) Azj) hb))) (Azg (Azi (Azn (Azf rfl) (Azp rfl (Azf rfl) (Azh (Azf rfl) Azj) ((Avq cel c hc hb1).deeper (by exact le_refl _))) (Fe _ _ (by lia) _)) rfl) Azm)
theorem P9(h:∀c∈T,c∈Cs)(hl:T.length≤1000)(cel:List Ad):Cl 3 (.ref 336) [.d (.str (tx T))] cel (.d (.str (tx (T.flatMap Fb)))) cel:=by
 refine xe (Mu (cel:=cel) (a:=.d (.str (tx T))) T [] none h (by simp;lia)) λsg f=>?_
 apply Cl.ret (loc:=[some (.d (.str (tx T))),none,none,none,none]) rfl rfl rfl
 apply Azg (σ₁:=⟨[some (.d (.str (tx T))),some (.d (.str (tx []))),none,none,none],cel⟩) (Azi Ev.str rfl)
 exact Azg (Sx.for (by exact nfa rfl) (Azf rfl) (Ac7 T cel) f) (Xs.ret (Sx.ret (Azf rfl)))
noncomputable def C9(i:Nat):List Nat:=if i=1 then [126]else []
noncomputable def Gf(i:Nat):List Nat:=([[115],[116],[115,116],[115,115]]:List (List Nat))[i]?.getD []
noncomputable def H5(i:Nat):List (List Nat):=([[[115],[83],[383],[119826]],[[116],[84],[119827],[119879]],[[115,116],[64261],[64262],[383,84]],[[115,115],[223],[83,119826],[115,173,115]]]:List (List (List Nat)))[i]?.getD []
noncomputable def Gn(i a:Nat):List Nat:=(H5 i)[a]?.getD []
noncomputable def Bk(o:Nat):List Nat:=([[124],[45,62],[61,61],[33,61],[94],[60,61],[62,61],[38]]:List (List Nat))[o]?.getD []
noncomputable def Jy(u:Nat):List Nat:=([[],[8203],[65024]]:List (List Nat))[u]?.getD []
noncomputable def Alr(ls:List (List Nat)):D:=.lst (ls.map λl=>.str (tx l))
noncomputable def Cg(X:Nat):List Nat:=C9 (X / 8 % 8 / 4)++Gn (X / 8 % 8 % 4) (X / 512 % 4)++(Bk (X % 8)).take 1++Jy (X / 8192 % 3)++(Bk (X % 8)).drop 1++C9 (X / 64 % 8 / 4)++Gn (X / 64 % 8 % 4) (X / 2048 % 4)
noncomputable def Og(l:Nat):Nat:=([0,3,2,1,4,7,6,5]:List Nat)[l]?.getD 0
noncomputable def Bl(X:Nat):Rl:=(Og (X / 8 % 8),X % 8,Og (X / 64 % 8))
noncomputable def Ys(x:AV)(names spellings mark number left right nl nr un wr:Option AV):List (Option AV):=[some x,names,spellings,mark,number,left,right,nl,nr,un,wr,none]
noncomputable def dC0:Ad:=.m ([[115],[116],[115,116],[115,115]].map λl=>D.str (tx l))
noncomputable def dC1:Ad:=.m ((List.range 4).map λi=>Alr (H5 i))
noncomputable def Ea:List Ad:=dC0::((List.range 4).map λi=>Ad.f ((H5 i).map λl=>D.str (tx l)))++[dC1]
noncomputable def sD:Scope:=Ke (st 73)
noncomputable def dS(i:Nat):Stmt:=sub (Ft (st 73)) i
theorem Aev(x:AV):Sx 2 sD (dS 0) ⟨Ys x none none none none none none none none none none,[]⟩ .next ⟨Ys x (some (.cell 0)) none none none none none none none none none,[dC0]⟩:=⟨40,by kernel_rfl⟩
theorem Ahg(x:AV):Sx 2 sD (dS 1) ⟨Ys x (some (.cell 0)) none none none none none none none none none,[dC0]⟩ .next ⟨Ys x (some (.cell 0)) (some (.cell 5)) none none none none none none none none,Ea⟩:=⟨40,by kernel_rfl⟩
noncomputable def Ady:Expr→Expr
 | .Subscript a _ _=>a
 | e=>e
noncomputable def Mi:Ad:=.m ((List.range 8).map λo=>.str (tx (Bk o)))
noncomputable def P4:Ad:=.m ((List.range 8).map λo=>.int (Cr o))
noncomputable def Nt:Ad:=.m ([[],[126]].map λl=>.str (tx l))
noncomputable def unC:Ad:=.m ((List.range 3).map λu=>.str (tx (Jy u)))
theorem Afl(loc:List (Option AV)):Ev 2 sD (Ady (Dn (dS 2))) ⟨loc,Ea⟩ (.cell 6) ⟨loc,Ea++[Mi]⟩:=⟨20,by kernel_rfl⟩
theorem Af1(loc:List (Option AV)):Ev 2 sD (Ady (Dn (dS 3))) ⟨loc,Ea++[Mi]⟩ (.cell 7) ⟨loc,Ea++[Mi,P4]⟩:=⟨20,by kernel_rfl⟩
theorem Ap0(loc:List (Option AV)):Ev 2 sD (Ady (Dn (dS 6))) ⟨loc,Ea++[Mi,P4]⟩ (.cell 8) ⟨loc,Ea++[Mi,P4,Nt]⟩:=⟨20,by kernel_rfl⟩
theorem Asw(loc:List (Option AV)):Ev 2 sD (Ady (Dn (dS 7))) ⟨loc,Ea++[Mi,P4,Nt]⟩ (.cell 9) ⟨loc,Ea++[Mi,P4,Nt,Nt]⟩:=⟨20,by kernel_rfl⟩
theorem Avy(loc:List (Option AV)):Ev 2 sD (Ady (Dn (dS 8))) ⟨loc,Ea++[Mi,P4,Nt,Nt]⟩ (.cell 10) ⟨loc,Ea++[Mi,P4,Nt,Nt,unC]⟩:=⟨20,by kernel_rfl⟩
noncomputable def Afx:List Ad:=Ea++[Mi,P4,Nt,Nt,unC]
theorem F1(a:Nat)(h0:0 < b)(h:b < 1073741824)(σ:St):binop .FloorDiv (num a) (num b) σ=some (num (a / b),σ):=by
 show(Gi (decide ((b:Int)≠0∧(b:Int).natAbs < 1073741824)) ((a:Int).fdiv b)).map (λz=>(AV.d (D.int z),σ))=_
 rw[decide_eq_true ⟨by lia,by assumption⟩,Int.fdiv_eq_ediv_of_nonneg _ (by lia)]
 rfl
theorem Ki(f:Nat→α)(h:i < n):((List.range n).map f)[i]? = some (f i):=by simp[h]
theorem Aap(h:l[i]? = some x)(hl:l.length≤1000)(cel:List Ad):item (.d (.lst l)) (num i) cel=some (.d x):=by
 exact Ka rfl h hl
theorem U8(h:i < 2):([[],[126]].map λl=>D.str (tx l))[i]? = some (.str (tx (C9 i))):=by
 have:i=0∨i=1:=by lia
 rcases this with rfl | rfl<;>rfl
theorem S7{i:Nat}(h:i < 4):i=0∨i=1∨i=2∨i=3:=by revert i;decide
theorem Ab1(h:i < 4):([[115],[116],[115,116],[115,115]].map λl=>D.str (tx l))[i]? = some (.str (tx (Gf i))):=by
 rcases S7 h with rfl | rfl | rfl | rfl<;>rfl
theorem Yn(h:i < 4)(ha:a < 4):((H5 i).map λl=>D.str (tx l))[a]? = some (.str (tx (Gn i a))):=by
 rcases S7 h with rfl | rfl | rfl | rfl<;>rcases S7 ha with rfl | rfl | rfl | rfl<;>rfl
theorem Hk(h:i < 4)(ha:a < 4):(Gn i a).length≤3:=by
 rcases S7 h with rfl | rfl | rfl | rfl<;>rcases S7 ha with rfl | rfl | rfl | rfl<;>decide
theorem Uq(h:i < 4):(H5 i).length=4:=by
 rcases S7 h with rfl | rfl | rfl | rfl<;>rfl
theorem Kg(i:Nat):(C9 i).length≤1:=by unfold C9;split<;>simp
theorem Ic(h:o < 8):(Bk o).length≤2:=by
 rcases I8 h with rfl | rfl | rfl | rfl | rfl | rfl | rfl | rfl<;>decide
theorem U7(h:u < 3):(Jy u).length≤1:=by
 have:u=0∨u=1∨u=2:=by lia
 rcases this with rfl | rfl | rfl<;>decide
theorem Af2(h:o < 8)(σ:St):cut (.d (.str (tx (Bk o)))) none (some 1) σ=some (.d (.str (tx ((Bk o).take 1))),σ):=by
 rcases I8 h with rfl | rfl | rfl | rfl | rfl | rfl | rfl | rfl<;>kernel_rfl
theorem Agw(h:o < 8)(σ:St):cut (.d (.str (tx (Bk o)))) (some 1) none σ=some (.d (.str (tx ((Bk o).drop 1))),σ):=by
 rcases I8 h with rfl | rfl | rfl | rfl | rfl | rfl | rfl | rfl<;>kernel_rfl
theorem Ib(h:l < 8):C9 (l / 4)++Gf (l % 4)=(lit (Og l)).cps.toList:=by
 rcases I8 h with rfl | rfl | rfl | rfl | rfl | rfl | rfl | rfl<;>rfl
theorem Ja(i:Nat):tx (lit i).cps.toList=lit i:=by
 show Str.mk _=_
 rw[toArray_toList]
noncomputable def Br(X:Nat):D:=.tup [.str (tx (Cg X)),Ak (Bl X)]
theorem Q0(i:Nat)(h:i < 4)(q:List Ad):item (.cell 0) (num i) (Ea++q)=some (.d (.str (tx (Gf i)))):=
 A2 (c:=dC0) rfl (Ab1 h) (by decide)
theorem Aiz(i:Nat)(h:i < 4)(q:List Ad):item (.cell 5) (num i) (Ea++q)=some (.d (Alr (H5 i))):=
 A2 (c:=dC1) rfl (Ki _ h) (by decide)
theorem Z0(h:i < 4)(ha:a < 4)(cel:List Ad):item (.d (Alr (H5 i))) (num a) cel=some (.d (.str (tx (Gn i a)))):=
 Aap (Yn h ha) (by rw[length_map,Uq h];decide) cel
theorem Ana(X:Nat):∃cel',Cl 3 (.ref 315) [num X] [] (.d (Br X)) cel':=by
 let o:=X % 8
 let l:=X / 8 % 8
 let r:=X / 64 % 8
 let a:=X / 512 % 4
 let b:=X / 2048 % 4
 let u:=X / 8192 % 3
 have ho:o < 8:=mod_lt _ (by decide)
 have hl:l < 8:=mod_lt _ (by decide)
 have hr:r < 8:=mod_lt _ (by decide)
 have ha:a < 4:=mod_lt _ (by decide)
 have hb:b < 4:=mod_lt _ (by decide)
 have hu:u < 3:=mod_lt _ (by decide)
 have hl2:l / 4 < 2:=by lia
 have hr2:r / 4 < 2:=by lia
 have hl4:l % 4 < 4:=mod_lt _ (by decide)
 have hr4:r % 4 < 4:=mod_lt _ (by decide)
 have i2:item (.cell 6) (num o) (Ea++[Mi])=some (.d (.str (tx (Bk o)))):=A2 (c:=Mi) rfl (Ki _ ho) (by decide)
 have i3:item (.cell 7) (num o) (Ea++[Mi,P4])=some (.d (.int (Cr o))):=A2 (c:=P4) rfl (Ki _ ho) (by decide)
 have i6:item (.cell 8) (num (l / 4)) (Ea++[Mi,P4,Nt])=some (.d (.str (tx (C9 (l / 4))))):=A2 (c:=Nt) rfl (U8 hl2) (by decide)
 have i7:item (.cell 9) (num (r / 4)) (Ea++[Mi,P4,Nt,Nt])=some (.d (.str (tx (C9 (r / 4))))):=A2 (c:=Nt) rfl (U8 hr2) (by decide)
 have i8:item (.cell 10) (num u) (Ea++[Mi,P4,Nt,Nt,unC])=some (.d (.str (tx (Jy u)))):=A2 (c:=unC) rfl (Ki _ hu) (by decide)
 have n1:=Kg (l / 4)
 have n2:=Kg (r / 4)
 have s1:=Hk hl4 ha
 have s2:=Hk hr4 hb
 have m1:((Bk o).take 1).length≤2:=le_trans (length_take_le' ..) (Ic ho)
 have m2:((Bk o).drop 1).length≤2:=by rw[length_drop];have:=Ic ho;exact le_trans (sub_le _ _) ‹_›
 have u1:=U7 hu
 let w1:List Nat:=C9 (l / 4)++Gn (l % 4) a++(Bk o).take 1++Jy u++(Bk o).drop 1
 have w1l:w1.length≤10:=by show(C9 (l / 4)++Gn (l % 4) a++(Bk o).take 1++Jy u++(Bk o).drop 1).length≤10;simp only[length_append];lia
 let L (mark number left right nl nr un wr:Option AV):=Ys (num X) (some (.cell 0)) (some (.cell 5)) mark number left right nl nr un wr
 let R:D:=.lst [.str (tx (C9 (l / 4)++Gf (l % 4))),.int (Cr o),.str (tx (C9 (r / 4)++Gf (r % 4)))]
 have hR:R=Ak (Bl X):=by
  show D.lst [.str (tx (C9 (l / 4)++Gf (l % 4))),.int (Cr o),.str (tx (C9 (r / 4)++Gf (r % 4)))]=D.lst [.str (lit (Og l)),.int (Cr o),.str (lit (Og r))]
  rw[Ib hl,Ib hr,Ja,Ja]
 have p1:(Gf (l % 4)).length≤2:=by rcases S7 hl4 with e | e | e | e<;>rw[e]<;>decide
 have p2:(Gf (r % 4)).length≤2:=by rcases S7 hr4 with e | e | e | e<;>rw[e]<;>decide
 refine⟨Afx++[.f [.str (tx (C9 (l / 4)++Gf (l % 4))),.int (Cr o),.str (tx (C9 (r / 4)++Gf (r % 4)))]],?_⟩
 show Cl 3 (.ref 315) [num X] [] (.d (.tup [.str (tx (Cg X)),Ak (Bl X)])) _
 rw[←hR]
 apply Cl.ret (loc:=Ys (num X) none none none none none none none none none none) rfl rfl rfl
 apply Azg (Aev _)
 apply Azg (Ahg _)
 apply Azg (σ₁:=⟨L (some (.d (.str (tx (Bk o))))) none none none none none none none,Ea++[Mi]⟩) (Azi (Azs (by exact Dc rfl) (Afl _) (Azn (Azf rfl) Azo (Ck X 8 (by decide) _)) i2) rfl)
 apply Azg (σ₁:=⟨L (some (.d (.str (tx (Bk o))))) (some (.d (.int (Cr o)))) none none none none none none,Ea++[Mi,P4]⟩) (Azi (Azs (by exact Dc rfl) (Af1 _) (Azn (Azf rfl) Azo (Ck X 8 (by decide) _)) i3) rfl)
 apply Azg (σ₁:=⟨L (some (.d (.str (tx (Bk o))))) (some (.d (.int (Cr o)))) (some (num l)) none none none none none,Ea++[Mi,P4]⟩) (Azi (Azn (Azn (Azf rfl) Azo (F1 X (b:=8) (by decide) (by decide) _)) Azo (Ck _ 8 (by decide) _)) rfl)
 apply Azg (σ₁:=⟨L (some (.d (.str (tx (Bk o))))) (some (.d (.int (Cr o)))) (some (num l)) (some (num r)) none none none none,Ea++[Mi,P4]⟩) (Azi (Azn (Azn (Azf rfl) Azo (F1 X (b:=64) (by decide) (by decide) _)) Azo (Ck _ 8 (by decide) _)) rfl)
 apply Azg (σ₁:=⟨L (some (.d (.str (tx (Bk o))))) (some (.d (.int (Cr o)))) (some (num l)) (some (num r)) (some (.d (.str (tx (C9 (l / 4)))))) none none none,Ea++[Mi,P4,Nt]⟩) (Azi (Azs (by exact Dc rfl) (Ap0 _) (Azn (Azf rfl) Azo (F1 l (b:=4) (by decide) (by decide) _)) i6) rfl)
 apply Azg (σ₁:=⟨L (some (.d (.str (tx (Bk o))))) (some (.d (.int (Cr o)))) (some (num l)) (some (num r)) (some (.d (.str (tx (C9 (l / 4)))))) (some (.d (.str (tx (C9 (r / 4)))))) none none,Ea++[Mi,P4,Nt,Nt]⟩) (Azi (Azs (by exact Dc rfl) (Asw _) (Azn (Azf rfl) Azo (F1 r (b:=4) (by decide) (by decide) _)) i7) rfl)
 apply Azg (σ₁:=⟨L (some (.d (.str (tx (Bk o))))) (some (.d (.int (Cr o)))) (some (num l)) (some (num r)) (some (.d (.str (tx (C9 (l / 4)))))) (some (.d (.str (tx (C9 (r / 4)))))) (some (.d (.str (tx (Jy u))))) none,Afx⟩) (Azi (Azs (by exact Dc rfl) (Avy _) (Azn (Azn (Azf rfl) Azo (F1 X (b:=8192) (by decide) (by decide) _)) Azo (Ck _ 3 (by decide) _)) i8) rfl)
 apply Azg (σ₁:=⟨L (some (.d (.str (tx (Bk o))))) (some (.d (.int (Cr o)))) (some (num l)) (some (num r)) (some (.d (.str (tx (C9 (l / 4)))))) (some (.d (.str (tx (C9 (r / 4)))))) (some (.d (.str (tx (Jy u))))) (some (.d (.str (tx w1)))),Afx⟩)
  (Azi (Azn (Azn (Azn (Azn (Azf rfl) (Azs (by exact Dc rfl) (Azs (by exact Dc rfl) (Azf rfl) (Azn (Azf rfl) Azo (Ck l 4 (by decide) _)) (Aiz _ hl4 _)) (Azn (Azn (Azf rfl) Azo (F1 X (b:=512) (by decide) (by decide) _)) Azo (Ck _ 4 (by decide) _)) (Z0 hl4 ha _)) (Fe _ _ (by lia) _))
   (Ev.slice (Azf rfl) .no (.yes Azo) (Af2 ho _)) (Fe _ _ (by simp only[length_append];lia) _)) (Azf rfl) (Fe _ _ (by simp only[length_append];lia) _)) (Ev.slice (Azf rfl) (.yes Azo) .no (Agw ho _)) (Fe _ _ (by simp only[length_append];lia) _)) rfl)
 apply Azg (σ₁:=⟨L (some (.d (.str (tx (Bk o))))) (some (.d (.int (Cr o)))) (some (num l)) (some (num r)) (some (.d (.str (tx (C9 (l / 4)))))) (some (.d (.str (tx (C9 (r / 4)))))) (some (.d (.str (tx (Jy u))))) (some (.d (.str (tx (w1++C9 (r / 4)++Gn (r % 4) b))))),Afx⟩)
  (Azi (Azn (Azn (Azf rfl) (Azf rfl) (Fe _ _ (by lia) _)) (Azs (by exact Dc rfl) (Azs (by exact Dc rfl) (Azf rfl) (Azn (Azf rfl) Azo (Ck r 4 (by decide) _)) (Aiz _ hr4 _)) (Azn (Azn (Azf rfl) Azo (F1 X (b:=2048) (by decide) (by decide) _)) Azo (Ck _ 4 (by decide) _)) (Z0 hr4 hb _)) (Fe _ _ (by rw[length_append];lia) _)) rfl)
 exact Xs.ret (Sx.ret (Ev.tuple (Azh (Azf rfl) (Azh (Ev.list (Azh (Azn (Azf rfl) (Azs (by exact Dc rfl) (Azf rfl) (Azn (Azf rfl) Azo (Ck l 4 (by decide) _)) (Q0 _ hl4 _)) (Fe _ _ (by lia) _)) (Azh (Azf rfl) (Azh (Azn (Azf rfl) (Azs (by exact Dc rfl) (Azf rfl) (Azn (Azf rfl) Azo (Ck r 4 (by decide) _)) (Q0 _ hr4 _)) (Fe _ _ (by lia) _)) Azj))) rfl rfl) Azj)) rfl rfl))
noncomputable def Hd(s:List Nat):Bool:=(D1.lookup (tx s)).isSome
noncomputable def Apx(a b:Nat):Bool:=([(33,61),(37,61),(38,61),(42,42),(42,61),(43,61),(45,61),(45,62),(47,47),(47,61),(58,61),(60,60),(60,61),(61,61),(62,61),(62,62),(64,61),(94,61),(124,61)]:List (Nat×Nat)).any λp=>p.1==a&&p.2==b
noncomputable def Aqg(a b:Nat):Bool:=([(42,42),(46,46),(47,47),(60,60),(62,62)]:List (Nat×Nat)).any λp=>p.1==a&&p.2==b
noncomputable def opC(a:Nat):Bool:=a != 115&&a != 116
noncomputable def Al9:List Nat→Bool
 | [a]=>opC a
 | [a,b]=>Apx a b
 | [a,b,_]=>Aqg a b
 | _=>false
theorem Agq(h:Hd s=true):Al9 s=true:=by
 unfold Hd at h
 cases hl:D1.lookup (tx s)with
 | none=>rw[hl]at h;exact Ff h
 | some v=>
  have h1:D1.all (λp=>Al9 p.1.cps.toList)=true:=by decide +kernel
  have:=all_eq_true.mp h1 _ (Db hl)
  simpa using this
theorem Dl(h:Al9 s=false):Hd s=false:=by
 cases e:Hd s with
 | false=>rfl
 | true=>rw[Agq e]at h;exact J3 h
theorem E1(cel:List Ad):cmp .NotIn (.d (.str (tx s))) (.dstr D1) cel=some (!Hd s):=rfl
noncomputable def sP:Scope:=Ke (st 77)
noncomputable def bP':List Stmt:=Bh (sub (Ft (st 77)) 2)
noncomputable def Fc(T:List Nat)(p:Nat)(sz:Option AV):List (Option AV):=[some (.d (.str (tx T))),some (.cell 0),some (num p),sz,none,none]
section
variable {T:List Nat} {p k:Nat} {cel:List Ad}
theorem Ev.part(h:p≤T.length)(hl:T.length≤1000):Ev 2 sP (.Subscript (.Name "text" a) (.Slice (some (.Name "place" b)) (some (.BinOp (.Name "place" c) .Add (.Name "size" d) e)) Option.none f) g) ⟨Fc T p (some (num k)),cel⟩ (.d (.str (tx ((T.drop p).take k)))) ⟨Fc T p (some (num k)),cel⟩:=by
 refine Ev.slice (Azf rfl) (.yes (Azf rfl)) (.yes (Azn (Azf rfl) (Azf rfl) (Bu _ _ _))) ?_
 rw[Am4 T (by exact le_add_right _ _) h (by exact le_add_left_of_le ‹_›),add_sub_cancel_left]
theorem gt_int(a:Nat)(cel:List Ad):cmp .Gt (num a) (.d (.int 1)) cel=some (decide (1 < a)):=by
 show some (decide ((1:Int) < (a:Int)))=_
 congr 1
 rw[Bool.eq_iff_iff];simp;omega
theorem Qn(h:p≤T.length)(hl:T.length≤1000)(h3:Hd ((T.drop p).take 3)=false)(h2:Hd ((T.drop p).take 2)=false):
  Wh 2 sP (B1 (sub bP' 1)) (Bh (sub bP' 1)) ⟨Fc T p (some (num 3)),cel⟩ .next ⟨Fc T p (some (num 1)),cel⟩:=by
 refine Wh.turn (Tv.andT (Azt (Azr (Azf rfl) Azo (gt_int 3 _))) (Azt (Azr (Ev.part h hl) (Azf rfl) ((E1 _).trans (by rw[h3];rfl))))) (Azg (Azi (Azn (Azf rfl) Azo (Eh (a:=3) 1 (by decide) _)) rfl) Azm) ?_
 refine Wh.turn (σ₁:=⟨Fc T p (some (num 2)),cel⟩) (Tv.andT (Azt (Azr (Azf rfl) Azo (gt_int 2 _))) (Azt (Azr (Ev.part h hl) (Azf rfl) ((E1 _).trans (by rw[h2];rfl))))) (Azg (Azi (Azn (Azf rfl) Azo (Eh (a:=2) 1 (by decide) _)) rfl) Azm) ?_
 exact Wh.done (σ₁:=⟨Fc T p (some (num 1)),cel⟩) (Tv.andF (Azt (Azr (Azf rfl) Azo (gt_int 1 _))))
theorem Act(h:p≤T.length)(hl:T.length≤1000)(h3:Hd ((T.drop p).take 3)=false)(h2:Hd ((T.drop p).take 2)=true):
  Wh 2 sP (B1 (sub bP' 1)) (Bh (sub bP' 1)) ⟨Fc T p (some (num 3)),cel⟩ .next ⟨Fc T p (some (num 2)),cel⟩:=by
 refine Wh.turn (Tv.andT (Azt (Azr (Azf rfl) Azo (gt_int 3 _))) (Azt (Azr (Ev.part h hl) (Azf rfl) ((E1 _).trans (by rw[h3];rfl))))) (Azg (Azi (Azn (Azf rfl) Azo (Eh (a:=3) 1 (by decide) _)) rfl) Azm) ?_
 exact Wh.done (σ₁:=⟨Fc T p (some (num 2)),cel⟩) (Tv.andT (Azt (Azr (Azf rfl) Azo (gt_int 2 _))) (Azt (Azr (Ev.part h hl) (Azf rfl) ((E1 _).trans (by rw[h2];rfl)))))
noncomputable def wE:Stmt:=sub (Hw (sub bP' 2)) 0
theorem Mw(hl:T.length≤1000):∀(m k:Nat),p+k+m≤T.length→(∀i,k≤i→i < k+m→∀c,T[p+i]? = some c→Hd [c]=false)→(∀c,T[p+(k+m)]? = some c→Hd [c]=true)→
  Wh 2 sP (B1 wE) (Bh wE) ⟨Fc T p (some (num k)),cel⟩ .next ⟨Fc T p (some (num (k+m))),cel⟩
 | 0,k,h,_,he=>by
  by_cases hlt:p+k < T.length
  ·have hc:=List.getElem?_eq_getElem hlt
   exact Wh.done (Tv.andT (Azt (Azr (Azn (Azf rfl) (Azf rfl) (Bu _ _ _)) (Azp rfl (Azf rfl) (Azh (Azf rfl) Azj) (Cl.lenS (by rw[Dr];exact At (by exact le_trans ‹_› (by decide))))) ((G4 _ _ _).trans (by rw[Dr,decide_eq_true hlt]))))
    (Azt (Azr (Azs (by exact Dc rfl) (Azf rfl) (Azn (Azf rfl) (Azf rfl) (Bu _ _ _)) (Va T hc hl _)) (Azf rfl) ((E1 _).trans (by rw[he _ hc];rfl)))))
  ·exact Wh.done (Tv.andF (Azt (Azr (Azn (Azf rfl) (Azf rfl) (Bu _ _ _)) (Azp rfl (Azf rfl) (Azh (Azf rfl) Azj) (Cl.lenS (by rw[Dr];exact At (by lia)))) ((G4 _ _ _).trans (by rw[Dr,decide_eq_false hlt])))))
 | m+1,k,h,hi,he=>by
  have hlt:p+k < T.length:=by lia
  have hc:=List.getElem?_eq_getElem hlt
  have ih:=Mw hl m (k+1) (by lia) (λi h1 h2=>hi i (by exact le_of_lt ‹_›) (by lia)) (by rw[show k+1+m=k+(m+1) by exact add_right_comm _ _ _];exact he)
  rw[show k+1+m=k+(m+1) by lia]at ih
  exact Wh.turn (Tv.andT (Azt (Azr (Azn (Azf rfl) (Azf rfl) (Bu _ _ _)) (Azp rfl (Azf rfl) (Azh (Azf rfl) Azj) (Cl.lenS (by rw[Dr];exact At (by lia)))) ((G4 _ _ _).trans (by rw[Dr,decide_eq_true hlt]))))
    (Azt (Azr (Azs (by exact Dc rfl) (Azf rfl) (Azn (Azf rfl) (Azf rfl) (Bu _ _ _)) (Va T hc hl _)) (Azf rfl) ((E1 _).trans (by rw[hi k (le_refl _) (by simp) _ hc];rfl)))))
   (Azg (Azi (Azn (Azf rfl) Azo (Bu _ 1 _)) rfl) Azm) ih
end
noncomputable def Cx(ps:List (List Nat)):List D:=ps.map λl=>.str (tx l)
inductive Ez:List Nat→List Nat→Prop
 | name {t rest:List Nat}:t≠[]→(∀c∈t,opC c=false)→(∀c r,rest=c::r→Hd [c]=true)→Ez t rest
 | one {a:Nat} {rest:List Nat}:Hd [a]=true→Hd ((a::rest).take 2)=false→Hd ((a::rest).take 3)=false→Ez [a] rest
 | two {a b:Nat} {rest:List Nat}:Hd [a,b]=true→Hd ((a::b::rest).take 3)=false→Ez [a,b] rest
inductive Lx:List (List Nat)→List Nat→Prop
 | nil:Lx [] []
 | cons {t:List Nat} {ts:List (List Nat)} {rest:List Nat}:Ez t rest→Lx ts rest→Lx (t::ts) (t++rest)
theorem Abx(h:opC c=false)(s:List Nat):Hd (c::s)=false:=by
 refine Dl ?_
 have hc:c=115∨c=116:=by
  unfold opC at h
  simp only[Bool.and_eq_false_iff,bne_eq_false_iff_eq]at h
  exact h
 match s with
 | []=>exact h
 | [b]=>rcases hc with rfl | rfl<;>rfl
 | [b,d]=>rcases hc with rfl | rfl<;>rfl
 | _::_::_::_=>rfl
section
variable {T:List Nat} {p:Nat}
theorem Lv(hl:T.length≤1000)(h:p≤T.length)(hps:ps.length≤1000)(ht:(T.drop p).take k=t)(hk:t.length=k):Xs 2 sP (bP'.drop 3) ⟨Fc T p (some (num k)),[.m (Cx ps)]⟩ .next ⟨Fc T (p+t.length) (some (num t.length)),[.m (Cx (ps++[t]))]⟩:=by
 have e:Cx (ps++[t])=Cx ps++[.str (tx t)]:=by simp[Cx]
 rw[hk,e]
 have hm:meth (.cell 0) "append" [.d (.str (tx ((T.drop p).take k)))] ⟨Fc T p (some (num k)),[.m (Cx ps)]⟩=some (.d .none,⟨Fc T p (some (num k)),[.m (Cx ps++[.str (tx t)])]⟩):=by
  rw[ht]
  exact Bq rfl (by unfold Cx;rw[length_map];exact hps)
 exact Azg (Azu (Ev.meth rfl (by exact Mq rfl) (Azf rfl) (Azh (Ev.part h hl) Azj) hm)) (Azg (Azi (Azn (Azf rfl) (Azf rfl) (Bu _ _ _)) rfl) Azm)
set_option tactic.hygienic true in
theorem Ac1(hl:T.length≤1000)(hd:T.drop p=t++rest)(hp:p < T.length)(hk:Ez t rest)(hps:ps.length≤1000)(sz:Option AV):
  Xs 2 sP bP' ⟨Fc T p sz,[.m (Cx ps)]⟩ .next ⟨Fc T (p+t.length) (some (num t.length)),[.m (Cx (ps++[t]))]⟩:=by
 have h:p≤T.length:=le_of_lt hp
 have hlen:T.length - p=t.length+rest.length:=by
  have:=congrArg List.length hd
  rw[length_drop,length_append]at this
  exact this
 refine Azg (σ₁:=⟨Fc T p (some (num 3)),[.m (Cx ps)]⟩) (Azi Azo rfl) ?_
 cases hk with
 | name h0 h1 h2=>
  refine Op (exists_cons_of_ne_nil h0) λc t' z=>?_
  subst z
  have hc:∀k,Hd ((T.drop p).take (k+1))=false:=λk=>by
   rw[hd,cons_append,take_succ_cons]
   exact Abx (h1 c mem_cons_self) _
  have Ad5:∀i,T[p+i]? = (c::t'++rest)[i]?:=λi=>by rw[←hd,getElem?_drop]
  refine Azg (Sx.while (Qn h hl (hc 2) (hc 1))) ?_
  have nl:=Mw (p:=p) (cel:=[.m (Cx ps)]) hl t'.length 1 (by simp only[length_cons]at hlen;lia) (λi h3 h4 d h5=>by
   rw[Ad5,List.getElem?_append_left (by simp only[length_cons];lia)]at h5
   exact Abx (h1 d (mem_of_getElem? h5)) []) (λd h5=>by
   rw[Ad5,List.getElem?_append_right (by simp only[length_cons];lia)]at h5
   induction rest using List.casesOn with
   | nil=>simp at h5
   | cons r rs=>
    have:1+t'.length - (c::t').length=0:=by simp only[length_cons];lia
    rw[this]at h5
    simp at h5
    subst h5
    exact h2 _ _ rfl)
  refine Azg (Azq (c:=true) (Azt (Azr (Ev.part h hl) (Azf rfl) ((E1 _).trans (by rw[hc 0];rfl)))) (Azg (Sx.while nl) Azm)) ?_
  exact Lv hl h hps (by rw[hd,show 1+t'.length=(c::t').length by simp only[length_cons];exact add_comm _ _,take_left]) (by simp only[length_cons];exact add_comm _ _)
 | one h1 h2 h3=>
  rename_i a
  refine Azg (Sx.while (Qn h hl (by rw[hd];exact h3) (by rw[hd];exact h2))) ?_
  refine Azg (Azq (c:=false) (Azt (Azr (Ev.part h hl) (Azf rfl) ((E1 _).trans (by rw[hd];show some (!Hd [a])=_;rw[h1];rfl)))) Azm) ?_
  exact Lv hl h hps (by rw[hd];rfl) rfl
 | two h1 h3=>
  rename_i a b
  refine Azg (Sx.while (Act h hl (by rw[hd];exact h3) (by rw[hd];exact h1))) ?_
  refine Azg (Azq (c:=false) (Azt (Azr (Ev.part h hl) (Azf rfl) ((E1 _).trans (by rw[hd];show some (!Hd [a,b])=_;rw[h1];rfl)))) Azm) ?_
  exact Lv hl h hps (by rw[hd];rfl) rfl
theorem Ale(h:Ez t rest):t≠[]:=by
 cases h with
 | name h=>exact h
 | _=>exact cons_ne_nil _ _
theorem Ade(hl:T.length≤1000)(cel:List Ad):Cl 2 (.builtin "len") [.d (.str (tx T))] cel (num T.length) cel:=by
 have:=Cl.lenS (d:=1) (x:=tx T) (cel:=cel) (by rw[Dr];exact At (by exact le_add_left_of_le ‹_›))
 rw[Dr]at this
 exact this
theorem Jo(hl:T.length≤1000):∀(ts:List (List Nat)) (R:List Nat) (p:Nat) (ps:List (List Nat)) (sz:Option AV),Lx ts R→T.drop p=R→p≤T.length→ps.length+ts.length≤1000→∃p' sz',
  Wh 2 sP (B1 (sub (Ft (st 77)) 2)) bP' ⟨Fc T p sz,[.m (Cx ps)]⟩ .next ⟨Fc T p' sz',[.m (Cx (ps++ts))]⟩
 | [],_,p,ps,sz,.nil,hd,hp,hps=>by
  have:¬p < T.length:=by
   have:=congrArg List.length hd
   rw[length_drop]at this
   simp at this;lia
  rw[append_nil]
  exact⟨p,sz,Wh.done (Azt (Azr (Azf rfl) (Azp rfl (Azf rfl) (Azh (Azf rfl) Azj) (Ade hl _)) ((G4 _ _ _).trans (by rw[decide_eq_false this]))))⟩
 | t::ts,_,p,ps,sz,.cons (rest:=rest) hk hx,hd,hp,hps=>by
  have h0:=length_pos_iff.mpr (Ale hk)
  have hlen:T.length - p=t.length+rest.length:=by
   have:=congrArg List.length hd
   rw[length_drop,length_append]at this
   exact this
  simp only[length_cons]at hps
  have hlt:p < T.length:=by lia
  refine Op (Jo hl ts rest (p+t.length) (ps++[t]) (some (num t.length)) hx (by rw[←drop_drop,hd,drop_left]) (by lia) (by rw[length_append,length_singleton];lia)) λp' sz' ih=>?_
  rw[append_assoc,singleton_append]at ih
  exact⟨p',sz',Wh.turn (Azt (Azr (Azf rfl) (Azp rfl (Azf rfl) (Azh (Azf rfl) Azj) (Ade hl _)) ((G4 _ _ _).trans (by rw[decide_eq_true hlt])))) (Ac1 hl hd hlt hk (by exact le_trans (le_add_right _ _) ‹_›) sz) ih⟩
theorem Ahs(hl:T.length≤1000)(hx:Lx ts T)(hts:ts.length≤1000):Cl 3 (.ref 343) [.d (.str (tx T))] [] (.cell 0) [.m (Cx ts)]:=by
 refine Op (Jo hl ts T 0 [] none hx rfl (zero_le _) (by simp;assumption)) λp' sz' w=>?_
 apply Cl.ret (loc:=[some (.d (.str (tx T))),none,none,none,none,none]) rfl rfl rfl
 apply Azg (σ₁:=⟨[some (.d (.str (tx T))),some (.cell 0),none,none,none,none],[.m []]⟩) (Azi (Ev.list Azj rfl rfl) rfl)
 apply Azg (σ₁:=⟨Fc T 0 none,[.m []]⟩) (Azi Azo rfl)
 exact Azg (Sx.while w) (Xs.ret (Sx.ret (Azf rfl)))
end
noncomputable def Bn(i:Nat):List Nat:=(lit i).cps.toList
noncomputable def Dm(i:Nat):List (List Nat):=if i < 4 then [Bn i]else [[126],Bn (i - 4)]
noncomputable def E9(r:Rl):List Nat:=Bn r.1++Bk r.2.1++Bn r.2.2
noncomputable def Dh(r:Rl):List (List Nat):=Dm r.1++[Bk r.2.1]++Dm r.2.2
noncomputable def A5:List Rl→List (List Nat)
 | []=>[]
 | [r]=>Dh r
 | r::rs=>Dh r++[[59]]++A5 rs
def Wj(c:Nat):Prop:=c=126∨c=115∨c=116
theorem Im(h2:Apx a c=false)(h3:Aqg a c=false):Hd ((a::c::r).take 3)=false:=by
 refine Dl ?_
 induction r using List.casesOn with
 | nil=>exact h2
 | cons d r=>exact h3
theorem Ae5(ho:o < 8)(hc:Wj c)(h:Lx ts (c::r)):Lx (Bk o::ts) (Bk o++c::r):=by
 refine .cons ?_ h
 rcases I8 ho with rfl | rfl | rfl | rfl | rfl | rfl | rfl | rfl
 ·refine Ez.one (by decide +kernel) (Dl ?_) (Im ?_ ?_)<;>rcases hc with rfl | rfl | rfl<;>rfl
 ·exact Ez.two (by decide +kernel) (Dl rfl)
 ·exact Ez.two (by decide +kernel) (Dl rfl)
 ·exact Ez.two (by decide +kernel) (Dl rfl)
 ·refine Ez.one (by decide +kernel) (Dl ?_) (Im ?_ ?_)<;>rcases hc with rfl | rfl | rfl<;>rfl
 ·exact Ez.two (by decide +kernel) (Dl rfl)
 ·exact Ez.two (by decide +kernel) (Dl rfl)
 ·refine Ez.one (by decide +kernel) (Dl ?_) (Im ?_ ?_)<;>rcases hc with rfl | rfl | rfl<;>rfl
theorem Aea(ha:a=59∨a=126)(hc:Wj c)(h:Lx ts (c::r)):Lx ([a]::ts) (a::c::r):=by
 refine .cons (t:=[a]) ?_ h
 rcases ha with rfl | rfl<;>refine Ez.one (by decide +kernel) (Dl ?_) (Im ?_ ?_)<;>rcases hc with rfl | rfl | rfl<;>rfl
theorem O0(h:i < 8)(r:List Nat):∃c r',Bn i++r=c::r'∧Wj c:=by
 rcases I8 h with rfl | rfl | rfl | rfl | rfl | rfl | rfl | rfl<;>first | exact⟨115,_,rfl,.inr (.inl rfl)⟩ | exact⟨116,_,rfl,.inr (.inr rfl)⟩ | exact⟨126,_,rfl,.inl rfl⟩
theorem V2(h:i < 4)(hr:∀c r,rest=c::r→Hd [c]=true)(hx:Lx ts rest):Lx (Bn i::ts) (Bn i++rest):=by
 refine .cons (.name ?_ ?_ hr) hx<;>rcases S7 h with rfl | rfl | rfl | rfl<;>decide
theorem Aa8(h:i < 8)(hr:∀c r,rest=c::r→Hd [c]=true)(hx:Lx ts rest):Lx (Dm i++ts) (Bn i++rest):=by
 unfold Dm
 by_cases h4:i < 4
 ·rw[if_pos h4]
  exact V2 h4 hr hx
 ·rw[if_neg h4]
  have h5:i - 4 < 4:=by omega
  have e:Bn i=126::Bn (i - 4):=by
   have:i=4∨i=5∨i=6∨i=7:=by lia
   rcases this with rfl | rfl | rfl | rfl<;>rfl
  refine Kt (O0 (i:=i - 4) (by exact lt_add_left _ ‹_›) rest) λc r' e2 hc=>?_
  have h6:=V2 h5 hr hx
  rw[e]
  show Lx ([126]::Bn (i - 4)::ts) (126::(Bn (i - 4)++rest))
  rw[e2]at h6⊢
  exact Aea (.inr rfl) hc h6
theorem Ae8(ho:o < 8)(r:List Nat):∀c r',Bk o++r=c::r'→Hd [c]=true:=by
 intro c r' e
 rcases I8 ho with rfl | rfl | rfl | rfl | rfl | rfl | rfl | rfl<;>(cases e;decide +kernel)
theorem Wf(h:C2 r)(hr:∀c r,rest=c::r→Hd [c]=true)(hx:Lx ts rest):Lx (Dh r++ts) (E9 r++rest):=by
 obtain⟨i,o,j⟩:=r
 refine Pb h λhi ho hj=>?_
 clear h
 simp only at hi ho hj
 have h1:=Aa8 hj hr hx
 refine Kt (O0 hj rest) λc r' e hc=>?_
 rw[e]at h1
 have h2:=Ae5 ho hc h1
 rw[←e]at h2
 have h3:=Aa8 hi (Ae8 ho _) h2
 simp only[Dh,E9,append_assoc]
 exact h3
noncomputable def L1(rs:List Rl):List Nat:=Ed [59] (rs.map E9)
theorem Ahm(h:C2 r):∃c t,L1 (r::rs)=c::t∧Wj c:=by
 unfold L1
 induction rs using List.casesOn with
 | nil=>
  show ∃c t,E9 r=c::t∧_
  unfold E9
  rw[append_assoc]
  exact O0 h.1 _
 | cons r2 rs=>
  show ∃c t,E9 r++[59]++_=c::t∧_
  unfold E9
  simp only[append_assoc]
  exact O0 h.1 _
theorem Adt:∀(rs:List Rl),(∀r∈rs,C2 r)→Lx (A5 rs) (L1 rs)
 | [],_=>.nil
 | [r],h=>by
  have:=Wf (h r mem_cons_self) (ts:=[]) (rest:=[]) (λc r e=>by exact nnc e) .nil
  rw[append_nil,append_nil]at this
  exact this
 | r::r2::rs,h=>by
  have ih:=Adt (r2::rs) λx hx=>h x (mem_cons_of_mem _ hx)
  refine Kt (Ahm (rs:=rs) (h r2 (mem_cons_of_mem _ mem_cons_self))) λc t e hc=>?_
  rw[e]at ih
  have h1:=Aea (.inl rfl) hc ih
  rw[←e]at h1
  have h2:=Wf (h r mem_cons_self) (λc r e=>by cases e;decide +kernel) h1
  show Lx (Dh r++[[59]]++A5 (r2::rs)) (E9 r++[59]++L1 (r2::rs))
  simp only[append_assoc]
  exact h2
theorem Uc(h:i < 4)(ha:a < 4):(Gn i a).flatMap Fb=Gf i:=by
 rcases S7 h with rfl | rfl | rfl | rfl<;>rcases S7 ha with rfl | rfl | rfl | rfl<;>rfl
theorem Aeg(i:Nat):(C9 i).flatMap Fb=C9 i:=by unfold C9;split<;>rfl
theorem Acw(h:u < 3):(Jy u).flatMap Fb=[]:=by
 have:u=0∨u=1∨u=2:=by lia
 rcases this with rfl | rfl | rfl<;>rfl
theorem Xj(h:o < 8):((Bk o).take 1).flatMap Fb++((Bk o).drop 1).flatMap Fb=Bk o:=by
 rcases I8 h with rfl | rfl | rfl | rfl | rfl | rfl | rfl | rfl<;>rfl
theorem Tc(X:Nat):(Cg X).flatMap Fb=E9 (Bl X):=by
 have hl:X / 8 % 8 < 8:=mod_lt _ (by decide)
 have hr:X / 64 % 8 < 8:=mod_lt _ (by decide)
 have ho:X % 8 < 8:=mod_lt _ (by decide)
 have e1:=Ib hl
 have e2:=Ib hr
 have e3:=Xj ho
 unfold Cg E9 Bl Bn
 simp only[flatMap_append,Aeg,Uc (mod_lt _ (by decide:0 < 4)) (mod_lt _ (by decide:0 < 4)),Acw (mod_lt _ (by decide:0 < 3)),append_nil]
 rw[←e1,←e2]
 simp only[append_assoc]
 rw[←append_assoc (((Bk (X % 8)).take 1).flatMap Fb),e3]
theorem Mr:∀(ls:List (List Nat)),(Ed [59] ls).flatMap Fb=Ed [59] (ls.map λl=>l.flatMap Fb)
 | []=>rfl
 | [x]=>rfl
 | x::y::r=>by
  show(x++[59]++Ed [59] (y::r)).flatMap Fb=_
  rw[flatMap_append,flatMap_append,Mr (y::r)]
  rfl
theorem Sy(X:Nat):∀c∈Cg X,c∈Cs:=by
 have hs:(List.range 4).all (λi=>(List.range 4).all λa=>(Gn i a).all λc=>Cs.contains c)=true:=by decide +kernel
 have hm:(List.range 8).all (λo=>(Bk o).all λc=>Cs.contains c)=true:=by decide +kernel
 have hu:(List.range 3).all (λu=>(Jy u).all λc=>Cs.contains c)=true:=by decide +kernel
 have hn:∀i,∀c∈C9 i,c∈Cs:=by
  intro i c hc
  unfold C9 at hc
  split at hc
  ·rw[mem_singleton.mp hc];decide
  ·exact nomatch hc
 have sp:∀i a,i < 4→a < 4→∀c∈Gn i a,c∈Cs:=λi a hi ha c hc=>by
  have:=all_eq_true.mp (all_eq_true.mp (all_eq_true.mp hs i (mem_range.mpr hi)) a (mem_range.mpr ha)) c hc
  exact contains_iff_mem.mp this
 have mk:∀c∈Bk (X % 8),c∈Cs:=λc hc=>contains_iff_mem.mp (all_eq_true.mp (all_eq_true.mp hm _ (mem_range.mpr (mod_lt _ (by decide)))) c hc)
 have un:∀c∈Jy (X / 8192 % 3),c∈Cs:=λc hc=>contains_iff_mem.mp (all_eq_true.mp (all_eq_true.mp hu _ (mem_range.mpr (mod_lt _ (by decide)))) c hc)
 intro c hc
 unfold Cg at hc
 simp only[mem_append]at hc
 rcases hc with(((((h | h) | h) | h) | h) | h) | h
 ·exact hn _ c h
 ·exact sp _ _ (mod_lt _ (by decide)) (mod_lt _ (by decide)) c h
 ·exact mk c (mem_of_mem_take h)
 ·exact un c h
 ·exact mk c (mem_of_mem_drop h)
 ·exact hn _ c h
 ·exact sp _ _ (mod_lt _ (by decide)) (mod_lt _ (by decide)) c h
theorem R1:∀(ls:List (List Nat)),c∈Ed [59] ls→c=59∨∃l∈ls,c∈l
 | [],h=>by exact nomatch h
 | [x],h=>.inr ⟨x,mem_cons_self,h⟩
 | x::y::r,h=>by
  have h:c∈x++[59]++Ed [59] (y::r):=h
  simp only[mem_append,mem_singleton]at h
  rcases h with(h | h) | h
  ·exact .inr ⟨x,mem_cons_self,h⟩
  ·exact .inl h
  ·rcases R1 (y::r) h with h | ⟨l,h1,h2⟩
   ·exact .inl h
   ·exact .inr ⟨l,mem_cons_of_mem _ h1,h2⟩
theorem Lg:∀(ls:List (List Nat)),(∀l∈ls,l.length≤20)→(Ed [59] ls).length≤21*ls.length
 | [],_=>le_refl _
 | [x],h=>by have:=h x mem_cons_self;show x.length≤21;exact le_succ_of_le ‹_›
 | x::y::r,h=>by
  have h1:=h x mem_cons_self
  have h2:=Lg (y::r) λl hl=>h l (mem_cons_of_mem _ hl)
  show(x++[59]++Ed [59] (y::r)).length≤_
  simp only[length_append,length_cons,length_nil]at h2⊢
  lia
theorem Om(X:Nat):(Cg X).length≤20:=by
 have a:=Kg (X / 8 % 8 / 4)
 have b:=Kg (X / 64 % 8 / 4)
 have c:=Hk (i:=X / 8 % 8 % 4) (a:=X / 512 % 4) (mod_lt _ (by decide)) (mod_lt _ (by decide))
 have d:=Hk (i:=X / 64 % 8 % 4) (a:=X / 2048 % 4) (mod_lt _ (by decide)) (mod_lt _ (by decide))
 have e:=Ic (o:=X % 8) (mod_lt _ (by decide))
 have f:=U7 (u:=X / 8192 % 3) (mod_lt _ (by decide))
 unfold Cg
 simp only[length_append,length_take,length_drop]
 lia
theorem V1(X:Nat):C2 (Bl X):=by
 have key:∀l,l < 8→Og l < 8:=λl h=>by
  rcases I8 h with rfl | rfl | rfl | rfl | rfl | rfl | rfl | rfl<;>decide
 exact⟨key _ (mod_lt _ (by decide)),mod_lt _ (by decide),key _ (mod_lt _ (by decide))⟩
noncomputable def D8(m:Nat):List Str:=(Cj m).map lit
noncomputable def rk(m i:Nat):Nat:=((Cj m).filter (· < i)).length
noncomputable def ins(m i:Nat):Nat:=if m.testBit i then m else m+2 ^ i
theorem Abo{P:Nat→Bool}(h:(List.range 4).all P=true){i:Nat}(hi:i < 4):P i=true:=all_eq_true.mp h i (mem_range.mpr hi)
theorem Aas{m i:Nat}(hm:m < 16)(hi:i < 4):Plc (D8 m) (lit i) (rk m i):=by
 have h:(List.range 16).all (λm=>(List.range 4).all λi=>Afp (Cj m) i (rk m i))=true:=by decide +kernel
 exact Adb (Abo (K9 h hm) hi)
noncomputable def F5(m i:Nat):List D:=pick (Ap (D8 m)) (some (rk m i:Int)) (some ((rk m i+1:Nat):Int))
theorem Aab{m i:Nat}(hm:m < 16)(hi:i < 4):F8 (K6 4) (F5 m i) [.str (lit i)]=some (m.testBit i):=by
 have h:(List.range 16).all (λm=>(List.range 4).all λi=>F8 (K6 4) (F5 m i) [.str (lit i)]==some (m.testBit i))=true:=by decide +kernel
 exact eq_of_beq (Abo (K9 h hm) hi)
theorem Pu{m i:Nat}(hm:m < 16)(hi:i < 4):ins m i < 16∧(m.testBit i=false→Cj (ins m i)=(Cj m).take (rk m i)++i::(Cj m).drop (rk m i))∧(∀j,j < 4→(ins m i).testBit j=(m.testBit j||i==j))∧(m.testBit i=true→ins m i=m):=by
 have h:(List.range 16).all (λm=>(List.range 4).all λi=>decide (ins m i < 16)&&(m.testBit i||Cj (ins m i)==(Cj m).take (rk m i)++i::(Cj m).drop (rk m i))&&(List.range 4).all λj=>(ins m i).testBit j==(m.testBit j||i==j))=true:=by decide +kernel
 have h1:=Abo (K9 h hm) hi
 simp only[Bool.and_eq_true,decide_eq_true_eq,Bool.or_eq_true,beq_iff_eq]at h1
 refine xa h1 λw c=>?_
 clear h1
 refine xa w λa b=>?_
 clear w
 refine⟨a,λhf=>?_,λj hj=>eq_of_beq (Abo c hj),λht=>by unfold ins;rw[if_pos ht]⟩
 rcases b with b | b
 ·rw[hf]at b;exact Ff b
 ·exact b
noncomputable def Ku(m:Nat)(t:List Nat):Nat:=if Hd t then m else match (List.range 4).find? (λi=>Bn i==t)with
 | some i=>ins m i
 | none=>m
def Mp(t:List Nat):Prop:=Hd t=true∨∃i,i < 4∧t=Bn i
theorem Iq{i:Nat}(h:i < 4):Hd (Bn i)=false:=by
 rcases S7 h with rfl | rfl | rfl | rfl<;>decide +kernel
theorem G7{m i:Nat}(h:i < 4):Ku m (Bn i)=ins m i:=by
 unfold Ku
 rw[Iq h]
 rcases S7 h with rfl | rfl | rfl | rfl<;>rfl
noncomputable def sN:Scope:=Ke (st 78)
noncomputable def bN:Stmt:=sub (Ft (st 78)) 1
noncomputable def J1(pc k:Option AV):List (Option AV):=[some (.cell 0),some (.cell 1),pc,k,none,none,none]
theorem Us{c0:Ad}{t:List Nat}(ht:Mp t){m:Nat}(hm:m < 16)(q:List Ad)(k:Option AV):∃k' q',Xs 3 sN (Bh bN) ⟨J1 (some (.d (.str (tx t)))) k,c0 :: .m (Ap (D8 m))::q⟩ .next ⟨J1 (some (.d (.str (tx t)))) k',c0 :: .m (Ap (D8 (Ku m t)))::q'⟩:=by
 rcases ht with ht | ⟨i,hi,rfl⟩
 ·refine⟨k,q,?_⟩
  have e:Ku m t=m:=by unfold Ku;rw[if_pos ht]
  rw[e]
  exact Azg (Azq (c:=false) (Azt (Azr (Azf rfl) (Azf rfl) ((E1 _).trans (by rw[ht];rfl)))) Azm) Azm
 ·rw[G7 hi]
  have hl:(D8 m).length≤4:=by
   unfold D8 Cj
   rw[length_map]
   exact le_trans (length_filter_le _ _) (by rw[length_range];exact le_refl _)
  have hp:=Aas hm hi
  have ht:=Aab hm hi
  refine Uw (Pu hm hi) λi1 i2 i3 i4=>?_
  let cel:=c0 :: .m (Ap (D8 m))::q
  have elit:tx (Bn i)=lit i:=Ja i
  have hb:Cl 3 (.ref 65) [.cell 1,.d (.str (tx (Bn i)))] cel (num (rk m i)) cel:=by
   rw[elit]
   exact(Dq hp (by exact le_trans ‹_› (by decide)) (a:=.cell 1) rfl).deeper (by exact le_succ _)
  have hcut:cut (.cell 1) (some (rk m i:Int)) (some ((rk m i+1:Nat):Int)) ⟨J1 (some (.d (.str (tx (Bn i))))) (some (num (rk m i))),cel⟩=some (.cell (q.length+2),⟨J1 (some (.d (.str (tx (Bn i))))) (some (num (rk m i))),c0 :: .m (Ap (D8 m))::(q++[.m (F5 m i)])⟩):=by
   rw[Fn (c:=.m (Ap (D8 m))) rfl (by show(Ap (D8 m)).length≤1000;rw[A4];lia)]
   rfl
  have g1:(c0::Ad.m (Ap (D8 m))::(q++[Ad.m (F5 m i)]++[Ad.m [D.str (tx (Bn i))]]))[q.length+2]? = some (.m (F5 m i)):=by
   show(q++[Ad.m (F5 m i)]++[Ad.m [D.str (tx (Bn i))]])[q.length]? = _
   simp
  have g2:(c0::Ad.m (Ap (D8 m))::(q++[Ad.m (F5 m i)]++[Ad.m [D.str (tx (Bn i))]]))[(q++[Ad.m (F5 m i)]).length+2]? = some (.m [D.str (tx (Bn i))]):=by
   show(q++[Ad.m (F5 m i)]++[Ad.m [D.str (tx (Bn i))]])[(q++[Ad.m (F5 m i)]).length]? = _
   simp
  have hne:cmp .NotEq (.cell (q.length+2)) (.cell ((q++[Ad.m (F5 m i)]).length+2)) (c0::Ad.m (Ap (D8 m))::(q++[Ad.m (F5 m i)]++[Ad.m [D.str (tx (Bn i))]]))=some (!m.testBit i):=by
   rw[Tz (By g1) (By g2)]
   show(F8 (K6 4) (F5 m i) [D.str (tx (Bn i))]).map _=_
   rw[elit,ht]
   rfl
  have test:Tv 3 sN (Dn (sub (Hw (sub (Bh bN) 0)) 1)) ⟨J1 (some (.d (.str (tx (Bn i))))) (some (num (rk m i))),cel⟩ (!m.testBit i) ⟨J1 (some (.d (.str (tx (Bn i))))) (some (num (rk m i))),c0 :: .m (Ap (D8 m))::(q++[.m (F5 m i)]++[.m [.str (tx (Bn i))]])⟩:=
   Azt (Azr (y:=.cell ((q++[Ad.m (F5 m i)]).length+2)) (Ev.slice (Azf rfl) (.yes (Azf rfl)) (.yes (Azn (Azf rfl) Azo (Bu _ 1 _))) hcut) (Ev.list (σ₁:=⟨J1 (some (.d (.str (tx (Bn i))))) (some (num (rk m i))),c0 :: .m (Ap (D8 m))::(q++[.m (F5 m i)])⟩) (cel:=c0 :: .m (Ap (D8 m))::(q++[.m (F5 m i)])) (ds:=[.str (tx (Bn i))]) (Azh (Azf rfl) Azj) rfl rfl) hne)
  refine⟨some (num (rk m i)),q++[.m (F5 m i)]++[.m [.str (tx (Bn i))]],Azg (Azq (c:=true) (Azt (Azr (Azf rfl) (Azf rfl) ((E1 _).trans (by rw[Iq hi];rfl)))) (Azg (σ₁:=⟨J1 (some (.d (.str (tx (Bn i))))) (some (num (rk m i))),cel⟩) (Azi (Azp rfl (Azf rfl) (Azh (Azf rfl) (Azh (Azf rfl) Azj)) hb) rfl) (Azg ?_ Azm))) Azm⟩
  cases hbit:m.testBit i with
  | true=>
   rw[hbit]at test
   rw[i4 hbit]
   exact Azq (c:=!true) test Azm
  | false=>
   rw[hbit]at test
   have e2:D8 (ins m i)=(D8 m).take (rk m i)++lit i::(D8 m).drop (rk m i):=by
    unfold D8
    rw[i2 hbit,map_append,map_cons,map_take,map_drop]
   have hins:=Xi hp (by lia) (cel:=c0 :: .m (Ap (D8 m))::(q++[.m (F5 m i)]++[.m [.str (tx (Bn i))]])) (i:=1) rfl
   rw[←e2]at hins
   refine Azq (c:=!false) test (Azg (Azu (Azp rfl (Azf rfl) (Azh (Azf rfl) (Azh (Azf rfl) Azj)) ?_)) Azm)
   rw[elit]at hins⊢
   exact hins
noncomputable def Qs(m:Nat)(ts:List (List Nat)):Nat:=ts.foldl Ku m
theorem Ws{t:List Nat}(ht:Mp t){m:Nat}(hm:m < 16):Ku m t < 16:=by
 rcases ht with ht | ⟨i,hi,rfl⟩
 ·unfold Ku;rw[if_pos ht];exact hm
 ·rw[G7 hi];exact(Pu hm hi).1
theorem L3{c0:Ad}:∀(ts:List (List Nat)) (m:Nat) (q:List Ad) (pc k:Option AV),(∀t∈ts,Mp t)→m < 16→∃pc' k' q',Fr 3 sN (Bh bN) (B1 bN) (Cx ts) ⟨J1 pc k,c0 :: .m (Ap (D8 m))::q⟩ .next ⟨J1 pc' k',c0 :: .m (Ap (D8 (Qs m ts)))::q'⟩
 | [],m,q,pc,k,_,_=>⟨pc,k,q,.nil⟩
 | t::ts,m,q,pc,k,h,hm=>by
  have ht:=h t mem_cons_self
  refine Op (Us (c0:=c0) ht hm q k) λk1 q1 h1=>?_
  obtain⟨pc',k',q',ih⟩:=L3 ts (Ku m t) q1 (some (.d (.str (tx t)))) k1 (λx hx=>h x (mem_cons_of_mem _ hx)) (Ws ht hm)
  exact⟨pc',k',q',.next (σ₁:=⟨J1 (some (.d (.str (tx t)))) k,c0 :: .m (Ap (D8 m))::q⟩) rfl h1 ih⟩
theorem Amk{ts:List (List Nat)}(h:∀t∈ts,Mp t){c0:Ad}(hc:c0.items=Cx ts):∃q,Cl 4 (.ref 350) [.cell 0] [c0] (.cell 1) (.f (Cx ts) :: .m (Ap (D8 (Qs 0 ts)))::q):=by
 refine Ot (L3 (c0:=.f (Cx ts)) ts 0 [] none none h (by decide)) λpc k q f=>?_
 refine⟨q,?_⟩
 have hit:Ai [c0,.m []] (.cell 0)=some (Cx ts,[.f (Cx ts),.m []]):=by
  show some (c0.items,[Ad.f c0.items,.m []])=_
  rw[hc]
 apply Cl.ret (loc:=[some (.cell 0),none,none,none,none,none,none]) rfl rfl rfl
 apply Azg (σ₁:=⟨J1 none none,[c0,.m []]⟩) (Azi (Ev.list Azj rfl rfl) rfl)
 exact Azg (Sx.for (by exact nfa rfl) (Azf rfl) hit f) (Xs.ret (Sx.ret (Azf rfl)))
theorem Fr.append(h1:Fr d sc b t l1 σ .next σ₁)(h2:Fr d sc b t l2 σ₁ fl σ₂):Fr d sc b t (l1++l2) σ fl σ₂:=by
 generalize hf:Fl.next=f at h1
 induction h1 with
 | nil=>exact h2
 | next a b _ ih=>exact .next a b (ih h2 hf)
 | ret=>cases hf
noncomputable def sU:Scope:=Ke (st 79)
noncomputable def bU(i:Nat):Stmt:=sub (Ft (st 79)) i
noncomputable def Fu(m:Nat)(t:List Nat):D:=match D1.lookup (tx t)with
 | some v=>v
 | none=>match (List.range 4).find? (λi=>Bn i==t)with
  | some i=>.int ((256+rk m i:Nat):Int)
  | none=>.none
theorem Je(h:i < 4):Fu m (Bn i) = .int ((256+rk m i:Nat):Int):=by
 unfold Fu
 have:=Iq h
 unfold Hd at this
 rw[isSome_eq_false_iff,isNone_iff_eq_none]at this
 rw[this]
 rcases S7 h with rfl | rfl | rfl | rfl<;>rfl
noncomputable def Co(pc rules rule tilde sym:Option AV):List (Option AV):=[some (.cell 0),some (.cell 1),some (.cell 2),pc,rules,rule,tilde,sym,none,none,none,none,none]
theorem Ac5(hm:m < 16)(hc:c1.items=Ap (D8 m))(ht:Mp t)(hl:ys.length≤1000):
  Xs 3 sU (Bh (bU 1)) ⟨Co (some (.d (.str (tx t)))) none none none none,[c0,c1,.m ys]⟩ .next ⟨Co (some (.d (.str (tx t)))) none none none none,[c0,c1,.m (ys++[Fu m t])]⟩:=by
 rcases ht with ht | ⟨i,hi,rfl⟩
 ·have hin:cmp .In (.d (.str (tx t))) (.dstr D1) [c0,c1,.m ys]=some (Hd t):=rfl
  unfold Hd at ht
  refine xe (isSome_iff_exists.mp ht) λv hv=>?_
  have e:Fu m t=v:=by unfold Fu;rw[hv]
  rw[e]
  have hit:item (.dstr D1) (.d (.str (tx t))) [c0,c1,.m ys]=some (.d v):=by
   show(D1.lookup (tx t)).map AV.d=_
   rw[hv];rfl
  exact Azg (Azq (c:=true) (Azt (Azr (Azf rfl) (Azf rfl) (hin.trans (by unfold Hd;rw[hv];rfl)))) (Azg (Azu (Ev.meth rfl (by exact Mq rfl) (Azf rfl) (Azh (Azs (by exact Dc rfl) (Azf rfl) (Azf rfl) hit) Azj) (Bq (xs:=ys) rfl hl))) Azm)) Azm
 ·have hin:cmp .In (.d (.str (tx (Bn i)))) (.dstr D1) [c0,c1,.m ys]=some (Hd (Bn i)):=rfl
  rw[Je hi]
  have hle:(D8 m).length≤4:=by
   unfold D8 Cj
   rw[length_map]
   exact le_trans (length_filter_le _ _) (by rw[length_range];exact le_refl _)
  have hb:Cl 3 (.ref 65) [.cell 1,.d (.str (tx (Bn i)))] [c0,c1,.m ys] (num (rk m i)) [c0,c1,.m ys]:=by
   rw[show tx (Bn i)=lit i from Ja i]
   exact(Dq (Aas hm hi) (by exact le_add_left_of_le ‹_›) (a:=.cell 1) (by show some c1.items=_;rw[hc])).deeper (by exact le_succ _)
  exact Azg (Azq (c:=false) (Azt (Azr (Azf rfl) (Azf rfl) (hin.trans (by rw[Iq hi])))) (Azg (Azu (Ev.meth rfl (by exact Mq rfl) (Azf rfl) (Azh (Azn Azo (Azp rfl (Azf rfl) (Azh (Azf rfl) (Azh (Azf rfl) Azj)) hb) (Bu 256 _ _)) Azj) (Bq (xs:=ys) rfl hl))) Azm)) Azm
theorem Rz(hm:m < 16)(hc:c1.items=Ap (D8 m)):∀(ts:List (List Nat)) (ys:List D) (pc:Option AV),(∀t∈ts,Mp t)→ys.length+ts.length≤1000→∃pc',Fr 3 sU (Bh (bU 1)) (B1 (bU 1)) (Cx ts) ⟨Co pc none none none none,[c0,c1,.m ys]⟩ .next ⟨Co pc' none none none none,[c0,c1,.m (ys++ts.map (Fu m))]⟩
 | [],ys,pc,_,_=>by
  simp only[map_nil,append_nil]
  exact⟨pc,.nil⟩
 | t::ts,ys,pc,h,hl=>by
  simp only[length_cons]at hl
  obtain⟨pc',ih⟩:=Rz hm hc ts (ys++[Fu m t]) (some (.d (.str (tx t)))) (λx hx=>h x (mem_cons_of_mem _ hx)) (by rw[length_append,length_singleton];lia)
  rw[append_assoc,singleton_append]at ih
  exact⟨pc',.next (σ₁:=⟨Co (some (.d (.str (tx t)))) none none none none,[c0,c1,.m ys]⟩) rfl (Ac5 hm hc (h t mem_cons_self) (by exact le_trans (le_add_right _ _) ‹_›)) ih⟩
theorem Ln(n:Nat)(cel:List Ad):Cl 2 (.ref 146) [num n] cel (.d (.bool (decide (256≤n)))) cel:=by
 apply Cl.ret (loc:=[some (num n),none]) rfl rfl rfl
 refine Xs.ret (Sx.ret (Azr (Azf rfl) (Azf rfl) ?_))
 show some (decide ((256:Int)≤(n:Int)))=_
 congr 1
 rw[Bool.eq_iff_iff];simp;omega
theorem Am9(n:Nat)(cel:List Ad):Cl 2 (.ref 153) [num n] cel (.d (.bool (n==0))) cel:=by
 apply Cl.ret (loc:=[some (num n),none]) rfl rfl rfl
 exact Xs.ret (Sx.ret (Azr (Azf rfl) (Azf rfl) (D9 n 0 _)))
theorem Ah3(n:Nat)(cel:List Ad):Cl 2 (.ref 139) [num n] cel (.d (.bool (decide (n < 256)))) cel:=by
 apply Cl.ret (loc:=[some (num n),none]) rfl rfl rfl
 exact Xs.ret (Sx.ret (Azr (Azf rfl) (Azf rfl) (G4 n 256 _)))
noncomputable def bW:List Stmt:=Bh (bU 5)
noncomputable def e1W:Stmt:=sub (Atk (sub bW 0)) 0
section
variable {c0 c1 c2:Ad} {m:Nat} {pc:Option AV}
theorem Acz(hc:c1.items=Ap (D8 m))(hr:(D8 m)[r]? = some (lit i))(hl:(D8 m).length≤4)(htil:til.length≤1)(hi:i < 4)(hq:q[ri]? = some (.m cur))(hcur:cur.length≤10):
  ∃q',q'[ri]? = some (.m (cur++[.str (tx (til++Bn i))]))∧q'.length=q.length∧Xs 3 sU bW ⟨Co pc (some (.cell 3)) (some (.cell (ri+4))) (some (.d (.str (tx til)))) (some (num (256+r))),c0::c1::c2 :: .m RD::q⟩ .next ⟨Co pc (some (.cell 3)) (some (.cell (ri+4))) (some (.d (.str (tx [])))) (some (num (256+r))),c0::c1::c2 :: .m RD::q'⟩:=by
 have hlt:=(List.getElem?_eq_some_iff.mp hq).1
 refine⟨q.set ri (.m (cur++[.str (tx (til++Bn i))])),by rw[getElem?_set_self hlt],length_set ..,?_⟩
 have hit:item (.cell 1) (num r) (c0::c1::c2 :: .m RD::q)=some (.d (.str (tx (Bn i)))):=by
  rw[show tx (Bn i)=lit i from Ja i]
  refine A2 (c:=c1) rfl ?_ ?_
  ·rw[hc];unfold Ap;rw[getElem?_map,hr];rfl
  ·rw[hc,A4];lia
 have hle:(Bn i).length≤2:=by rcases S7 hi with rfl | rfl | rfl | rfl<;>decide
 have hs:=Eh (a:=256+r) 256 (by exact le_add_right _ _) ⟨Co pc (some (.cell 3)) (some (.cell (ri+4))) (some (.d (.str (tx til)))) (some (num (256+r))),c0::c1::c2 :: .m RD::q⟩
 rw[add_sub_cancel_left]at hs
 have hn:=Ln (256+r) (c0::c1::c2 :: .m RD::q)
 rw[decide_eq_true (by lia)]at hn
 exact Azg (Azq (c:=true) (Tv.call (Azp rfl (Azf rfl) (Azh (Azf rfl) Azj) (hn.deeper (by lia)))) (Azg (Azu (Ev.meth rfl (by exact Mq rfl) (Azf rfl) (Azh (Azn (Azf rfl) (Azs (by exact Dc rfl) (Azf rfl) (Azn (Azf rfl) Azo hs) hit) (Fe _ _ (by lia) _)) Azj) (Bq (k:=ri+4) (xs:=cur) hq (by exact le_trans ‹_› (by decide))))) (Azg (Azi Ev.str rfl) Azm))) Azm
theorem Ty(hn:decide (256≤n)=b):Tv 3 sU (Dn (sub bW 0)) ⟨Co pc RD rl til (some (num n)),q⟩ b ⟨Co pc RD rl til (some (num n)),q⟩:=by
 have h:=Ln n q
 rw[hn]at h
 exact Tv.call (Azp rfl (Azf rfl) (Azh (Azf rfl) Azj) (h.deeper (by lia)))
theorem Abd(hn:(n==0||n==13)=b):Tv 3 sU (Dn e1W) ⟨Co pc RD rl til (some (num n)),q⟩ b ⟨Co pc RD rl til (some (num n)),q⟩:=by
 have h:=Am9 n q
 cases h0:(n==0)with
 | true=>
  rw[h0]at h hn
  rw[←hn]
  exact Tv.orT (Tv.call (Azp rfl (Azf rfl) (Azh (Azf rfl) Azj) (h.deeper (by lia))))
 | false=>
  rw[h0]at h hn
  rw[Bool.false_or]at hn
  exact Tv.orF (Tv.call (Azp rfl (Azf rfl) (Azh (Azf rfl) Azj) (h.deeper (by lia)))) (Azt (Azr (Azf rfl) Azo ((D9 n 13 _).trans (by rw[hn]))))
theorem Agx:Xs 3 sU bW ⟨Co pc RD rl til (some (num 31)),q⟩ .next ⟨Co pc RD rl (some (.d (.str (tx [126])))) (some (num 31)),q⟩:=
 Azg (Azq (c:=false) (Ty rfl) (Azg (Azq (c:=false) (Abd rfl) (Azg (Azq (c:=true) (Azt (Azr (Azf rfl) Azo (D9 31 31 _))) (Azg (Azi Ev.str rfl) Azm)) Azm)) Azm)) Azm
theorem Ay8(h1:decide (256≤n)=false)(h2:(n==0||n==13)=false)(h3:(n==31)=false)(hq:q[ri]? = some (.m cur))(hcur:cur.length≤10):
  ∃q',q'[ri]? = some (.m (cur++[.int (n:Int)]))∧q'.length=q.length∧Xs 3 sU bW ⟨Co pc (some (.cell 3)) (some (.cell (ri+4))) til (some (num n)),c0::c1::c2 :: .m RD::q⟩ .next ⟨Co pc (some (.cell 3)) (some (.cell (ri+4))) til (some (num n)),c0::c1::c2 :: .m RD::q'⟩:=by
 have hlt:=(List.getElem?_eq_some_iff.mp hq).1
 refine⟨q.set ri (.m (cur++[.int (n:Int)])),by rw[getElem?_set_self hlt],length_set ..,?_⟩
 have ht:=Ah3 n (c0::c1::c2 :: .m RD::q)
 rw[decide_eq_true (by simp at h1;assumption)]at ht
 exact Azg (Azq (c:=false) (Ty h1) (Azg (Azq (c:=false) (Abd h2) (Azg (Azq (c:=false) (Azt (Azr (Azf rfl) Azo ((D9 n 31 _).trans (by rw[h3])))) (Azg (Azq (c:=true) (Tv.call (Azp rfl (Azf rfl) (Azh (Azf rfl) Azj) (ht.deeper (by lia))))
  (Azg (Azu (Ev.meth rfl (by exact Mq rfl) (Azf rfl) (Azh (Azf rfl) Azj) (Bq (k:=ri+4) (xs:=cur) hq (by lia)))) Azm)) Azm)) Azm)) Azm)) Azm
theorem Aja(h1:decide (256≤n)=false)(h2:(n==0||n==13)=true)(hR:RD.length≤100)(hq:q[ri]? = some (.m cur)):
  ∃q',q'[q.length]? = some (.m [])∧Xs 3 sU bW ⟨Co pc (some (.cell 3)) (some (.cell (ri+4))) til (some (num n)),c0::c1::c2 :: .m RD::q⟩ .next ⟨Co pc (some (.cell 3)) (some (.cell (q.length+4))) til (some (num n)),c0::c1::c2 :: .m (RD++[.lst cur])::q'⟩:=by
 have hlt:=(List.getElem?_eq_some_iff.mp hq).1
 refine⟨q.set ri (.f cur)++[.m []],by rw[List.getElem?_append_right (by simp)];simp,?_⟩
 have ht:toD (c0::c1::c2 :: .m RD::q) (.cell (ri+4))=some (.lst cur,c0::c1::c2 :: .m RD::q.set ri (.f cur)):=by
  show(match q[ri]? with
   | some c=>some (D.lst c.items,c0::c1::c2 :: .m RD::q.set ri (.f c.items))
   | none=>none)=_
  rw[hq];rfl
 have hm:meth (.cell 3) "append" [.cell (ri+4)] ⟨Co pc (some (.cell 3)) (some (.cell (ri+4))) til (some (num n)),c0::c1::c2 :: .m RD::q⟩=some (.d .none,⟨Co pc (some (.cell 3)) (some (.cell (ri+4))) til (some (num n)),c0::c1::c2 :: .m (RD++[.lst cur])::q.set ri (.f cur)⟩):=by
  rw[Hq (xs:=RD) (cel:=c0::c1::c2 :: .m RD::q.set ri (.f cur)) ht rfl (by exact le_trans ‹_› (by decide))]
  rfl
 have hlen:(c0::c1::c2::Ad.m (RD++[.lst cur])::q.set ri (.f cur)).length=q.length+4:=by simp
 refine Azg (Azq (c:=false) (Ty h1) (Azg (Azq (c:=true) (Abd h2) (Azg (Azu (Ev.meth rfl (by exact Mq rfl) (Azf rfl) (Azh (Azf rfl) Azj) hm)) (Azg (Azi (Ev.list (ds:=[]) (cel:=c0::c1::c2 :: .m (RD++[.lst cur])::q.set ri (.f cur)) Azj rfl rfl) ?_) Azm))) Azm)) Azm
 rw[hlen]
 rfl
end
noncomputable def opN(o:Nat):Nat:=([18,51,27,28,32,29,30,19]:List Nat)[o]?.getD 0
theorem Aka(h:o < 8):Cr o=(opN o:Int):=by
 rcases I8 h with rfl | rfl | rfl | rfl | rfl | rfl | rfl | rfl<;>rfl
theorem Zv(m:Nat):Fu m [59] = .int 13:=by kernel_rfl
theorem Xz(m:Nat):Fu m [126] = .int 31:=by kernel_rfl
theorem Acj(m:Nat)(h:o < 8):Fu m (Bk o) = .int (opN o:Int):=by
 rcases I8 h with rfl | rfl | rfl | rfl | rfl | rfl | rfl | rfl<;>kernel_rfl
theorem Aje(hm:m < 16)(hi:i < 4)(hb:m.testBit i=true):(D8 m)[rk m i]? = some (lit i):=by
 have h:(List.range 16).all (λm=>(List.range 4).all λi=>!m.testBit i||(Cj m)[rk m i]? == some i)=true:=by decide +kernel
 have h1:=Abo (K9 h hm) hi
 rw[hb]at h1
 simp only[Bool.not_true,Bool.false_or,beq_iff_eq]at h1
 unfold D8
 rw[getElem?_map,h1];rfl
theorem Ox(m:Nat):(D8 m).length≤4:=by
 unfold D8 Cj
 rw[length_map]
 exact le_trans (length_filter_le _ _) (by rw[length_range];lia)
section
variable {c0 c1 c2:Ad} {m:Nat} {pc:Option AV} {RD:List D}
theorem Wz(hm:m < 16)(hc:c1.items=Ap (D8 m))(hi:i < 8)(hb:m.testBit (i % 4)=true)(hq:q[ri]? = some (.m cur))(hcur:cur.length≤10)(sy:Option AV):
  ∃q' sy',q'[ri]? = some (.m (cur++[.str (lit i)]))∧q'.length=q.length∧Fr 3 sU bW (B1 (bU 5)) ((Dm i).map (Fu m)) ⟨Co pc (some (.cell 3)) (some (.cell (ri+4))) (some (.d (.str (tx [])))) sy,c0::c1::c2 :: .m RD::q⟩ .next
   ⟨Co pc (some (.cell 3)) (some (.cell (ri+4))) (some (.d (.str (tx [])))) sy',c0::c1::c2 :: .m RD::q'⟩:=by
 unfold Dm
 by_cases h4:i < 4
 ·rw[if_pos h4]
  rw[mod_eq_of_lt h4]at hb
  refine D7 (Acz (pc:=pc) (c0:=c0) (c2:=c2) (RD:=RD) hc (Aje hm h4 hb) (Ox m) (til:=[]) (by decide) h4 hq hcur) λq' h1 h2 h3=>?_
  rw[nil_append,show tx (Bn i)=lit i from Ja i]at h1
  refine⟨q',some (num (256+rk m i)),h1,h2,?_⟩
  rw[map_singleton,Je h4]
  exact .next rfl h3 .nil
 ·rw[if_neg h4]
  have h5:i - 4 < 4:=by lia
  rw[show i % 4=i - 4 by lia]at hb
  refine D7 (Acz (pc:=pc) (c0:=c0) (c2:=c2) (RD:=RD) hc (Aje hm h5 hb) (Ox m) (til:=[126]) (by decide) h5 hq hcur) λq' h1 h2 h3=>?_
  have e:tx ([126]++Bn (i - 4))=lit i:=by
   have:i=4∨i=5∨i=6∨i=7:=by lia
   rcases this with rfl | rfl | rfl | rfl<;>rfl
  rw[e]at h1
  refine⟨q',some (num (256+rk m (i - 4))),h1,h2,?_⟩
  rw[map_cons,map_singleton,Je h5,Xz]
  exact .next (σ₁:=⟨Co pc (some (.cell 3)) (some (.cell (ri+4))) (some (.d (.str (tx [])))) (some (num 31)),c0::c1::c2 :: .m RD::q⟩) rfl Agx (.next rfl h3 .nil)
def InM(m:Nat)(r:Rl):Prop:=m.testBit (r.1 % 4)=true∧m.testBit (r.2.2 % 4)=true
theorem Sz(hm:m < 16)(hc:c1.items=Ap (D8 m))(hr:C2 r)(hb:InM m r)(hq:q[ri]? = some (.m []))(sy:Option AV):
  ∃q' sy',q'[ri]? = some (.m [.str (lit r.1),.int (Cr r.2.1),.str (lit r.2.2)])∧q'.length=q.length∧Fr 3 sU bW (B1 (bU 5)) ((Dh r).map (Fu m)) ⟨Co pc (some (.cell 3)) (some (.cell (ri+4))) (some (.d (.str (tx [])))) sy,c0::c1::c2 :: .m RD::q⟩ .next
   ⟨Co pc (some (.cell 3)) (some (.cell (ri+4))) (some (.d (.str (tx [])))) sy',c0::c1::c2 :: .m RD::q'⟩:=by
 refine Cc (Wz (pc:=pc) (c0:=c0) (c2:=c2) (RD:=RD) hm hc hr.1 hb.1 hq (by decide) sy) λq1 s1 a1 a2 a3=>?_
 have ho:=hr.2.1
 obtain⟨q2,b1,b2,b3⟩:=Ay8 (pc:=pc) (c0:=c0) (c1:=c1) (c2:=c2) (n:=opN r.2.1) (by rcases I8 ho with e | e | e | e | e | e | e | e<;>rw[e]<;>rfl) (by rcases I8 ho with e | e | e | e | e | e | e | e<;>rw[e]<;>rfl) (by rcases I8 ho with e | e | e | e | e | e | e | e<;>rw[e]<;>rfl) (til:=some (.d (.str (tx [])))) (RD:=RD) a1 (by simp)
 refine Cc (Wz (pc:=pc) (c0:=c0) (c2:=c2) (RD:=RD) hm hc hr.2.2 hb.2 b1 (by simp) (some (num (opN r.2.1)))) λq3 s3 d1 d2 d3=>?_
 refine⟨q3,s3,?_,by lia,?_⟩
 ·rw[d1,Aka ho];rfl
 ·unfold Dh
  rw[map_append,map_append,map_singleton,Acj m ho]
  refine(a3.append (.next (σ₁:=⟨Co pc (some (.cell 3)) (some (.cell (ri+4))) (some (.d (.str (tx [])))) (some (num (opN r.2.1))),c0::c1::c2 :: .m RD::q1⟩) rfl b3 .nil)).append d3
end
theorem V3(hm:m < 16)(hc:c1.items=Ap (D8 m)):∀(rs:List Rl) (RD:List D) (q:List Ad) (ri:Nat) (sy:Option AV),rs≠[]→(∀r∈rs,C2 r∧InM m r)→q[ri]? = some (.m [])→RD.length+rs.length≤100→
  ∃q' ru sy',Fr 3 sU bW (B1 (bU 5)) ((A5 rs).map (Fu m)++[.int 0]) ⟨Co pc (some (.cell 3)) (some (.cell (ri+4))) (some (.d (.str (tx [])))) sy,c0::c1::c2 :: .m RD::q⟩ .next
   ⟨Co pc (some (.cell 3)) ru (some (.d (.str (tx [])))) sy',c0::c1::c2 :: .m (RD++rs.map Ak)::q'⟩
 | [],_,_,_,_,h,_,_,_=>absurd rfl h
 | [r],RD,q,ri,sy,_,h,hq,hl=>by
  refine xa (h r mem_cons_self) λhr hb=>?_
  simp only[length_cons,length_nil]at hl
  refine Cc (Sz (pc:=pc) (c0:=c0) (c2:=c2) (RD:=RD) hm hc hr hb hq sy) λq1 s1 a1 a2 a3=>?_
  refine Aj (Aja (pc:=pc) (c0:=c0) (c1:=c1) (c2:=c2) (n:=0) rfl rfl (til:=some (.d (.str (tx [])))) (RD:=RD) (by lia) a1) λq2 b1 b2=>?_
  exact⟨q2,_,_,a3.append (.next (σ₁:=⟨Co pc (some (.cell 3)) (some (.cell (ri+4))) (some (.d (.str (tx [])))) (some (num 0)),c0::c1::c2 :: .m RD::q1⟩) rfl b2 .nil)⟩
 | r::r2::rs,RD,q,ri,sy,_,h,hq,hl=>by
  refine xa (h r mem_cons_self) λhr hb=>?_
  simp only[length_cons]at hl
  refine Cc (Sz (pc:=pc) (c0:=c0) (c2:=c2) (RD:=RD) hm hc hr hb hq sy) λq1 s1 a1 a2 a3=>?_
  refine Aj (Aja (pc:=pc) (c0:=c0) (c1:=c1) (c2:=c2) (n:=13) rfl rfl (til:=some (.d (.str (tx [])))) (RD:=RD) (by lia) a1) λq2 b1 b2=>?_
  obtain⟨q3,ru,s3,f⟩:=V3 hm hc (r2::rs) (RD++[Ak r]) q2 q1.length (some (num 13)) (by simp) (λx hx=>h x (mem_cons_of_mem _ hx)) b1 (by simp only[length_append,length_cons,length_nil];lia)
  rw[append_assoc,singleton_append]at f
  refine⟨q3,ru,s3,?_⟩
  show Fr _ _ _ _ ((Dh r++[[59]]++A5 (r2::rs)).map (Fu m)++[.int 0]) _ _ _
  rw[map_append,map_append,map_singleton,Zv,append_assoc]
  exact(a3.append (.next (σ₁:=⟨Co pc (some (.cell 3)) (some (.cell (ri+4))) (some (.d (.str (tx [])))) (some (num 13)),c0::c1::c2 :: .m RD::q1⟩) rfl b2 .nil)).append f
theorem Px(h:σ.cel[i]? = some c)(h':σ.cel[j]? = some c')(hl:c.items.length+c'.items.length≤10000):binop .Add (.cell i) (.cell j) σ=some (.cell σ.cel.length,⟨σ.loc,σ.cel++[.m (c.items++c'.items)]⟩):=by
 exact Agu (By h) (By h') (At (by lia))
theorem Wm(h:i < 8):∀t∈Dm i,Mp t:=by
 intro t ht
 unfold Dm at ht
 split at ht
 ·rename_i h4
  rw[mem_singleton.mp ht];exact .inr ⟨i,h4,rfl⟩
 ·rcases mem_cons.mp ht with rfl | ht
  ·exact .inl (by decide +kernel)
  ·rw[mem_singleton.mp ht];exact .inr ⟨i - 4,by lia,rfl⟩
theorem Sd(h:C2 r):∀t∈Dh r,Mp t:=by
 intro t ht
 unfold Dh at ht
 simp only[mem_append,mem_singleton]at ht
 rcases ht with(ht | rfl) | ht
 ·exact Wm h.1 t ht
 ·have ho:=h.2.1
  left
  rcases I8 ho with e | e | e | e | e | e | e | e<;>rw[e]<;>decide +kernel
 ·exact Wm h.2.2 t ht
theorem Kb:∀(rs:List Rl),(∀r∈rs,C2 r)→∀t∈A5 rs,Mp t
 | [],_,t,ht=>by cases ht
 | [r],h,t,ht=>Sd (h r mem_cons_self) t ht
 | r::r2::rs,h,t,ht=>by
  have ht:t∈Dh r++[[59]]++A5 (r2::rs):=ht
  simp only[mem_append,mem_singleton]at ht
  rcases ht with(ht | rfl) | ht
  ·exact Sd (h r mem_cons_self) t ht
  ·exact .inl (by decide +kernel)
  ·exact Kb (r2::rs) (λx hx=>h x (mem_cons_of_mem _ hx)) t ht
theorem Mx(r:Rl):(Dh r).length≤5:=by
 have:∀i,(Dm i).length≤2:=λi=>by unfold Dm;split<;>simp
 have a:=this r.1
 have b:=this r.2.2
 unfold Dh
 simp only[length_append,length_singleton]
 lia
theorem Lj:∀(rs:List Rl),(A5 rs).length≤6*rs.length
 | []=>le_refl _
 | [r]=>by have:=Mx r;show(Dh r).length≤6;lia
 | r::r2::rs=>by
  have h1:=Mx r
  have h2:=Lj (r2::rs)
  show(Dh r++[[59]]++A5 (r2::rs)).length≤_
  simp only[length_append,length_cons,length_nil]at h2⊢
  lia
theorem Amf(hne:rs≠[])(hlen:rs.length≤50)(hm:m < 16)(h:∀r∈rs,C2 r∧InM m r)(hc0:c0.items=Cx (A5 rs))(hc:c1.items=Ap (D8 m)):
  ∃q,Cl 4 (.ref 357) [.cell 0,.cell 1] [c0,c1] (.cell 3) (.f (Cx (A5 rs))::c1 :: .m ((A5 rs).map (Fu m)) :: .m (rs.map Ak)::q):=by
 let ts:=A5 rs
 let F0:Ad:=.f (Cx ts)
 let S:Ad:=.m (ts.map (Fu m))
 have htl:=Lj rs
 refine xe (Rz (c0:=F0) hm hc ts [] none (Kb rs λr hr=>(h r hr).1) (by simp only[length_nil];show 0+(A5 rs).length≤1000;lia)) λpc f1=>?_
 refine Ot (V3 (c0:=F0) (c2:=S) (pc:=pc) hm hc rs [] [.m [],.m [.int 0],.f (ts.map (Fu m)++[.int 0])] 0 none hne h rfl (by simp only[length_nil];lia)) λq ru sy f5=>?_
 refine⟨q,?_⟩
 have hit1:Ai [c0,c1,.m []] (.cell 0)=some (Cx ts,[F0,c1,.m []]):=by
  show some (c0.items,[Ad.f c0.items,c1,.m []])=_
  rw[hc0]
 have hcat:binop .Add (.cell 2) (.cell 5) ⟨Co pc (some (.cell 3)) (some (.cell 4)) (some (.d (.str (tx [])))) none,[F0,c1,S,.m [],.m [],.m [.int 0]]⟩=some (.cell 6,⟨Co pc (some (.cell 3)) (some (.cell 4)) (some (.d (.str (tx [])))) none,[F0,c1,S,.m [],.m [],.m [.int 0],.m (ts.map (Fu m)++[.int 0])]⟩):=
  Px (c:=S) (c':=.m [.int 0]) rfl rfl (by show(ts.map (Fu m)).length+1≤10000;rw[length_map];show(A5 rs).length+1≤10000;lia)
 apply Cl.ret (loc:=[some (.cell 0),some (.cell 1),none,none,none,none,none,none,none,none,none,none,none]) rfl rfl rfl
 apply Azg (σ₁:=⟨Co none none none none none,[c0,c1,.m []]⟩) (Azi (Ev.list Azj rfl rfl) rfl)
 apply Azg (Sx.for (by exact nfa rfl) (Azf rfl) hit1 f1)
 apply Azg (σ₁:=⟨Co pc (some (.cell 3)) none none none,[F0,c1,S,.m []]⟩) (Azi (Ev.list Azj rfl rfl) rfl)
 apply Azg (σ₁:=⟨Co pc (some (.cell 3)) (some (.cell 4)) none none,[F0,c1,S,.m [],.m []]⟩) (Azi (Ev.list Azj rfl rfl) rfl)
 apply Azg (σ₁:=⟨Co pc (some (.cell 3)) (some (.cell 4)) (some (.d (.str (tx [])))) none,[F0,c1,S,.m [],.m []]⟩) (Azi Ev.str rfl)
 exact Azg (Sx.for (by exact nfa rfl) (Azn (Azf rfl) (Ev.list (Azh Azo Azj) rfl rfl) hcat) rfl f5) (Xs.ret (Sx.ret (Azf rfl)))
noncomputable def sL:Scope:=Ke (st 83)
noncomputable def bL(i:Nat):Stmt:=sub (Ft (st 83)) i
structure LL where
 numbers:Option AV:=none
 drawn:Option AV:=none
 pieces:Option AV:=none
 names:Option AV:=none
 rules:Option AV:=none
 table:Option AV:=none
 rule:Option AV:=none
 one:Option AV:=none
 two:Option AV:=none
 row:Option AV:=none
 groups:Option AV:=none
 leads:Option AV:=none
 seen:Option AV:=none
 k:Option AV:=none
noncomputable abbrev L'(sc:AV)(l:LL)(cel:List Ad):St:=⟨[some sc,l.numbers,l.drawn,l.pieces,l.names,l.rules,l.table,l.rule,l.one,l.two,l.row,l.groups,l.leads,l.seen,l.k,none,none,none,none,none,none,none,none,none,none],cel⟩
noncomputable def B5:List Int:=[13377,4749,19985,4064,9625]
noncomputable def G5(l:List Int):List Int:=l.take 5++B5.drop (l.take 5).length
noncomputable def A3(l:List Int):List D:=l.map .int
theorem Ag4(xs:List D)(r:Nat):pick xs none (some (r:Int))=xs.take r:=by
 rw[J7]
 simp only[Option.elim,clipAt_nat,drop_zero,sub_zero]
 by_cases h:r≤xs.length
 ·rw[min_eq_left h]
 ·rw[min_eq_right (by lia),take_of_length_le (by exact le_refl _),take_of_length_le (by lia)]
theorem V6{xs:List D}{lo hi:Option Int}{σ:St}(hl:xs.length≤1000):cut (.d (.lst xs)) lo hi σ=some (.cell σ.cel.length,⟨σ.loc,σ.cel++[.m (pick xs lo hi)]⟩):=by
 exact Rd rfl (At (by exact le_add_left_of_le ‹_›))
theorem Awh(hl:l.length≤63):Sx (d+1) sL (bL 0) (L' (.d (.lst (A3 l))) {} []) .next (L' (.d (.lst (A3 l))) {numbers:=some (.cell 4)} [.m (A3 (l.take 5)),.m (A3 B5),.m (A3 (l.take 5)),.m (A3 (B5.drop (l.take 5).length)),.m (A3 (G5 l))]):=by
 have hil:(A3 l).length≤1000:=by unfold A3;rw[length_map];exact le_add_left_of_le ‹_›
 have h5:(l.take 5).length≤5:=by rw[length_take];lia
 have e5:pick (A3 l) none (some ((5:Nat):Int))=A3 (l.take 5):=by rw[Ag4];unfold A3;rw[map_take]
 have ed:pick (A3 B5) (some ((l.take 5).length:Int)) none=A3 (B5.drop (l.take 5).length):=by rw[Nn _ _ h5];unfold A3;rw[map_drop]
 let S:AV:=.d (.lst (A3 l))
 have c1:cut S none (some 5) (L' S {} [])=some (.cell 0,L' S {} [.m (A3 (l.take 5))]):=by
  rw[V6 hil,show(5:Int)=((5:Nat):Int)from rfl,e5];rfl
 have c2:cut S none (some 5) (L' S {} [.m (A3 (l.take 5)),.m (A3 B5)])=some (.cell 2,L' S {} [.m (A3 (l.take 5)),.m (A3 B5),.m (A3 (l.take 5))]):=by
  rw[V6 hil,show(5:Int)=((5:Nat):Int)from rfl,e5];rfl
 have il:(A3 (l.take 5)).length=(l.take 5).length:=length_map _
 have hn:Cl (d+1) (.builtin "len") [.cell 2] [.m (A3 (l.take 5)),.m (A3 B5),.m (A3 (l.take 5))] (num (l.take 5).length) [.m (A3 (l.take 5)),.m (A3 B5),.m (A3 (l.take 5))]:=
  Ih (c:=.m (A3 (l.take 5))) rfl il (by exact le_add_left_of_le ‹_›)
 have c3:cut (.cell 1) (some ((l.take 5).length:Int)) none (L' S {} [.m (A3 (l.take 5)),.m (A3 B5),.m (A3 (l.take 5))])=some (.cell 3,L' S {} [.m (A3 (l.take 5)),.m (A3 B5),.m (A3 (l.take 5)),.m (A3 (B5.drop (l.take 5).length))]):=by
  rw[Fn (c:=.m (A3 B5)) rfl (by decide)]
  show some (_,(⟨_,[Ad.m (A3 (l.take 5)),.m (A3 B5),.m (A3 (l.take 5)),.m (pick (A3 B5) _ none)]⟩:St))=_
  rw[ed];rfl
 have c4:binop .Add (.cell 0) (.cell 3) (L' S {} [.m (A3 (l.take 5)),.m (A3 B5),.m (A3 (l.take 5)),.m (A3 (B5.drop (l.take 5).length))])=some (.cell 4,L' S {} [.m (A3 (l.take 5)),.m (A3 B5),.m (A3 (l.take 5)),.m (A3 (B5.drop (l.take 5).length)),.m (A3 (G5 l))]):=by
  have hd:(A3 (B5.drop (l.take 5).length)).length≤5:=by unfold A3;rw[length_map,length_drop];show 5 - _≤5;exact sub_le _ _
  rw[Px (c:=.m (A3 (l.take 5))) (c':=.m (A3 (B5.drop (l.take 5).length))) rfl rfl (by show(A3 (l.take 5)).length+(A3 (B5.drop (l.take 5).length)).length≤10000;lia)]
  show some (_,(⟨_,[Ad.m (A3 (l.take 5)),.m (A3 B5),.m (A3 (l.take 5)),.m (A3 (B5.drop (l.take 5).length)),.m (A3 (l.take 5)++A3 (B5.drop (l.take 5).length))]⟩:St))=_
  unfold G5 A3
  rw[map_append];rfl
 exact Azi (Azn (Ev.slice (Azf rfl) .no (.yes Azo) c1) (Ev.slice (Ev.list (Azh Azo (Azh Azo (Azh Azo (Azh Azo (Azh Azo Azj))))) rfl rfl) (.yes (Azp rfl (Azf rfl) (Azh (Ev.slice (Azf rfl) .no (.yes Azo) c2) Azj) hn)) .no c3) c4) rfl
noncomputable def drX(x:Int):Nat:=(x % 24576).toNat
theorem Zh(x:Int)(σ:St):binop .Mod (.d (.int x)) (.d (.int 24576)) σ=some (num (drX x),σ):=by
 show(Gi (decide ((24576:Int)≠0)) (x.fmod 24576)).map (λz=>(AV.d (D.int z),σ))=_
 rw[decide_eq_true (by decide),Int.fmod_eq_emod_of_nonneg _ (by decide)]
 unfold drX
 have:=Int.emod_nonneg x (show(24576:Int)≠0 by decide)
 show some (AV.d (D.int (x % 24576)),σ)=some (AV.d (D.int (((x % 24576).toNat:Nat):Int)),σ)
 rw[Int.toNat_of_nonneg this]
noncomputable def drE:Expr:=Dn (bL 1)
theorem Lh(hi:pre.length=i):∀(ns:List Int) (xs:List D) (q:List Ad) (v:Option AV),xs.length+ns.length≤100→∃v' q',Tn (d+3) (Vc drE) (I2 drE) i (Dy drE 0).target (Dy drE 0).ifs (A3 ns) ⟨[none,v,none],pre ++ .m xs::q⟩ ⟨[none,v',none],pre ++ .m (xs++ns.map λx=>Br (drX x))::q'⟩
 | [],xs,q,v,_=>by
  simp only[map_nil,append_nil]
  exact⟨v,q,.nil⟩
 | x::ns,xs,q,v,hl=>by
  simp only[length_cons]at hl
  obtain⟨a',h⟩:=Ana (drX x)
  have h1:=(h.lift0 (ds:=[.int (drX x:Int)]) (pre ++ .m xs::q)).deeper (m:=d+3) (by exact le_add_left _ _)
  obtain⟨v',q',ih⟩:=Lh hi ns (xs++[Br (drX x)]) (q++a') (some (.d (.int x))) (by rw[length_append,length_singleton];lia)
  rw[append_assoc,singleton_append]at ih
  have e1:(pre++Ad.m xs::q)++a'=pre ++ .m xs::(q++a'):=by exact append_assoc _ _ _
  rw[e1]at h1
  refine⟨v',q',.take (σ₁:=⟨[none,some (.d (.int x)),none],pre ++ .m xs::q⟩) (σ₂:=⟨[none,some (.d (.int x)),none],pre ++ .m xs::q⟩) (σ₃:=⟨[none,some (.d (.int x)),none],pre ++ .m xs::(q++a')⟩) (x:=Br (drX x)) (cel:=pre ++ .m xs::(q++a')) (xs:=xs) rfl (.inl ⟨rfl,rfl⟩) (Azp rfl (Azf rfl) (Azh (Azn (Azf rfl) Azo (Zh x _)) Azj) h1) rfl ?_ (At (by lia)) ?_⟩
  ·rw[←hi];exact Be
  ·rw[←hi,D3,hi]
   exact ih
theorem Sh:∀(ts:List (List Nat)) (m:Nat),(∀t∈ts,Mp t)→m < 16→Qs m ts < 16∧∀i,i < 4→(m.testBit i=true∨Bn i∈ts)→(Qs m ts).testBit i=true
 | [],m,_,hm=>⟨hm,λi _ h=>h.elim id λh=>by exact nomatch h⟩
 | t::ts,m,h,hm=>by
  have ht:=h t mem_cons_self
  have hm':=Ws ht hm
  refine xa (Sh ts (Ku m t) (λx hx=>h x (mem_cons_of_mem _ hx)) hm') λa b=>?_
  refine⟨a,λi hi hb=>b i hi ?_⟩
  rcases hb with hb | hb
  ·left
   rcases ht with ht | ⟨j,hj,rfl⟩
   ·unfold Ku;rw[if_pos ht];exact hb
   ·rw[G7 hj,(Pu hm hj).2.2.1 i hi,hb,Bool.true_or]
  ·rcases mem_cons.mp hb with rfl | hb
   ·left
    rw[G7 hi,(Pu hm hi).2.2.1 i hi]
    simp
   ·exact .inr hb
theorem P6{i:Nat}(h:i < 8):Bn (i % 4)∈Dm i:=by revert i;decide
theorem Lq:∀(rs:List Rl) (r:Rl),r∈rs→∀t∈Dh r,t∈A5 rs
 | [],r,h,_,_=>by exact nomatch h
 | [x],r,h,t,ht=>by rw[mem_singleton.mp h]at ht;exact ht
 | x::y::rs,r,h,t,ht=>by
  show t∈Dh x++[[59]]++A5 (y::rs)
  rcases mem_cons.mp h with rfl | h
  ·simp[ht]
  ·have:=Lq (y::rs) r h t ht
   simp[this]
noncomputable def El(rs:List Rl):Nat:=Qs 0 (A5 rs)
theorem W3(h:∀r∈rs,C2 r):El rs < 16∧∀r∈rs,InM (El rs) r:=by
 refine xa (Sh (A5 rs) 0 (Kb rs h) (by decide)) λa b=>?_
 refine⟨a,λr hr=>⟨b _ (mod_lt _ (by decide)) (.inr ?_),b _ (mod_lt _ (by decide)) (.inr ?_)⟩⟩
 ·exact Lq rs r hr _ (by unfold Dh;simp[P6 (h r hr).1])
 ·exact Lq rs r hr _ (by unfold Dh;simp[P6 (h r hr).2.2])
theorem Kj(hl:l < 8)(hb:m.testBit (l % 4)=true):l∈Ab m:=by
 unfold Ab Cj
 rw[mem_append]
 by_cases h4:l < 4
 ·rw[mod_eq_of_lt h4]at hb
  exact .inl (mem_filter.mpr ⟨mem_range.mpr h4,hb⟩)
 ·rw[show l % 4=l - 4 by lia]at hb
  exact .inr (mem_map.mpr ⟨l - 4,mem_filter.mpr ⟨mem_range.mpr (by omega),hb⟩,by omega⟩)
theorem Akq(h:∀r∈rs,C2 r)(hb:∀r∈rs,InM m r):Qq m rs:=by
 intro p hp
 refine Aj (mem_flatMap.mp hp) λr h1 h2=>?_
 rw[Lc]at h2
 refine Aj (mem_flatMap.mp h2) λpq _ h4=>?_
 refine xa (hb r h1) λb1 b2=>?_
 have hi:=(h r h1).1
 have hj:=(h r h1).2.2
 have m1:=Kj hi b1
 have m2:=Kj hj b2
 have m3:Da r.1∈Ab m:=Kj (Pa _) (by rw[show Da r.1 % 4=r.1 % 4 by unfold Da;simp];exact b1)
 have m4:Da r.2.2∈Ab m:=Kj (Pa _) (by rw[show Da r.2.2 % 4=r.2.2 % 4 by unfold Da;simp];exact b2)
 have o1:=Wb hi
 have o2:=Wb hj
 obtain⟨pb,qb⟩:=pq
 rcases pb<;>rcases qb<;>simp[Eb,o1,o2]at h4<;>rcases h4 with rfl | rfl<;>exact⟨by assumption,by assumption⟩
noncomputable def joE:Expr:=Tp (Tp (Tp (Dn (bL 2)) 0) 0) 0
theorem Jk(hi:pre.length=i):∀(ns:List Nat) (xs:List D) (v:Option AV),xs.length+ns.length≤100→∃v',Tn (d+3) (Vc joE) (I2 joE) i (Dy joE 0).target (Dy joE 0).ifs (ns.map Br) ⟨[none,v],pre++[.m xs]⟩ ⟨[none,v'],pre++[.m (xs++ns.map λX=>.str (tx (Cg X)))]⟩
 | [],xs,v,_=>by
  simp only[map_nil,append_nil]
  exact⟨v,.nil⟩
 | X::ns,xs,v,hl=>by
  simp only[length_cons]at hl
  refine xe (Jk (d:=d) hi ns (xs++[.str (tx (Cg X))]) (some (.d (Br X))) (by rw[length_append,length_singleton];lia)) λv' ih=>?_
  rw[append_assoc,singleton_append]at ih
  refine⟨v',.take (σ₁:=⟨[none,some (.d (Br X))],pre++[.m xs]⟩) (σ₂:=⟨[none,some (.d (Br X))],pre++[.m xs]⟩) (σ₃:=⟨[none,some (.d (Br X))],pre++[.m xs]⟩) (x:=.str (tx (Cg X))) (cel:=pre++[.m xs]) (xs:=xs) rfl (.inl ⟨rfl,rfl⟩) (Azs (by exact Dc rfl) (Azf rfl) Azo rfl) rfl ?_ (At (by lia)) ?_⟩
  ·rw[←hi];exact Be
  ·rw[←hi,D3,hi]
   exact ih
theorem Aez(ls:List (List Nat)):Ia (ls.map λl=>D.str (tx l))=some (ls.map tx):=by
 induction ls with
 | nil=>rfl
 | cons x r ih=>simp[Ia]at ih⊢;exact ih
theorem Zc(h:σ.cel[k]? = some c)(hc:c.items=ls.map λl=>D.str (tx l))(hl:(ls.map List.length).sum+ls.length≤10000):meth (.d (.str (tx [59]))) "join" [.cell k] σ=some (.d (.str (tx (Ed [59] ls))),σ):=by
 have el:(ls.map tx).map (·.length)=ls.map List.length:=by
  rw[map_map]
  exact map_congr_left λx _=>Dr x
 rw[←Agb]
 refine Aai ((By h).trans (congrArg some hc)) (Aez ls) ?_
 rw[el]
 rw[At (by rw[length_map,Dr];simp;exact le_add_left_of_le ‹_›)]
theorem Aq2{d:Nat}{pre q:List Ad}{Xs':List Nat}(hX:Xs'.length≤10)(hpre:pre.length=5)(hd:l.drawn=some (.cell 5)):∃cel' pp,Sx (d+4) sL (bL 2) (L' S l (pre ++ .m (Xs'.map Br)::q)) .next (L' S {l with pieces:=some (.cell pp)} cel')∧cel'[5]? = some (.f (Xs'.map Br))∧cel'[pp]? = some (.m (Cx (A5 (Xs'.map Bl))))∧5≠pp:=by
 let rs:=Xs'.map Bl
 let b:=pre ++ .f (Xs'.map Br)::q
 have hb5:b[5]? = some (.f (Xs'.map Br)):=by rw[←hpre];exact Be
 have hbl:5 < b.length:=(List.getElem?_eq_some_iff.mp hb5).1
 have hit:Ai (pre ++ .m (Xs'.map Br)::q) (.cell 5)=some (Xs'.map Br,b):=by
  show(match (pre++Ad.m (Xs'.map Br)::q)[5]? with
   | some c=>some (c.items,(pre++Ad.m (Xs'.map Br)::q).set 5 (.f c.items))
   | none=>none)=_
  rw[←hpre,Be]
  show some (_,(pre++Ad.m (Xs'.map Br)::q).set pre.length (.f (Xs'.map Br)))=_
  rw[D3];rfl
 refine xe (Jk (d:=d+1) (pre:=b) rfl Xs' [] none (by simp;exact le_trans ‹_› (by decide))) λv f=>?_
 rw[nil_append]at f
 let C:Ad:=.m (Xs'.map λX=>.str (tx (Cg X)))
 let T:=Ed [59] (Xs'.map Cg)
 have hsum:((Xs'.map Cg).map List.length).sum≤20*Xs'.length:=by
  clear hit f hb5 hbl hX
  induction Xs' with
  | nil=>simp
  | cons x r ih=>have:=Om x;simp only[map_cons,sum_cons,length_cons];lia
 have hj:meth (.d (.str (tx [59]))) "join" [.cell b.length] (L' S l (b++[C]))=some (.d (.str (tx T)),L' S l (b++[C])):=
  Zc (c:=C) (ls:=Xs'.map Cg) (by show(b++[C])[b.length]? = _;simp) (by show(Xs'.map λX=>D.str (tx (Cg X)))=_;rw[map_map];rfl) (by rw[length_map];lia)
 have hTl:T.length≤1000:=by
  have:=Lg (Xs'.map Cg) (λx hx=>by obtain⟨X,_,rfl⟩:=mem_map.mp hx;exact Om X)
  rw[length_map]at this
  show(Ed [59] (Xs'.map Cg)).length≤1000
  lia
 have hTs:∀c∈T,c∈Cs:=λc hc=>by
  rcases R1 _ hc with rfl | ⟨x,h1,h2⟩
  ·decide
  ·refine Aj (mem_map.mp h1) λX _ z=>?_
   subst z
   exact Sy X c h2
 have hTp:T.flatMap Fb=L1 rs:=by
  show(Ed [59] (Xs'.map Cg)).flatMap Fb=Ed [59] (rs.map E9)
  rw[Mr,map_map,map_map]
  congr 1
  exact map_congr_left λX _=>Tc X
 have hp:=(P9 hTs hTl (b++[C])).deeper (m:=d+4) (by exact le_add_left _ _)
 rw[hTp]at hp
 have hrs:∀r∈rs,C2 r:=λr hr=>by
  refine Aj (mem_map.mp hr) λX _ z=>?_
  subst z
  exact V1 X
 have htl:=Lj rs
 have hrl:rs.length≤10:=by show(Xs'.map Bl).length≤10;rw[length_map];exact hX
 have hPl:(L1 rs).length≤1000:=by
  have h1:=Lg (rs.map E9) (λx hx=>by
   refine Aj (mem_map.mp hx) λr hr z=>?_
   subst z
   have h3:∀i,i < 8→(Bn i).length≤3:=λi hi=>by rcases I8 hi with rfl | rfl | rfl | rfl | rfl | rfl | rfl | rfl<;>decide
   have a:=h3 _ (hrs r hr).1
   have b:=h3 _ (hrs r hr).2.2
   have c:=Ic (hrs r hr).2.1
   unfold E9
   simp only[length_append]
   lia)
  rw[length_map]at h1
  show(Ed [59] (rs.map E9)).length≤1000
  lia
 have hpc:=((Ahs hPl (Adt rs hrs) (by lia)).lift0 (ds:=[.str (tx (L1 rs))]) (b++[C])).deeper (m:=d+4) (by lia)
 refine⟨b++[C]++[.m (Cx (A5 rs))],(b++[C]).length,?_,?_,?_,by rw[length_append];lia⟩
 ·obtain⟨numbers,drawn,pieces,names,rules,table,rule,one,two,row,groups,leads,seen,k⟩:=l
  simp only at hd
  subst hd
  exact Azi (Azp rfl (Azf rfl) (Azh (Azp rfl (Azf rfl) (Azh (Ev.meth rfl (by exact Mq rfl) Ev.str (Azh (Ev.lc rfl (Azf rfl) hit rfl rfl f) Azj) hj) Azj) hp) Azj) hpc) rfl
 ·rw[append_assoc,List.getElem?_append_left hbl];exact hb5
 ·rw[List.getElem?_append_right (le_refl _),sub_self];rfl
end
noncomputable section
open PySem PyProof.Rows
theorem Me{b r:List Ad}{i j:Nat}(h:b[j]? = some c)(hne:j≠i):(b.set i x++r)[j]? = some c:=by
 have hj:=(List.getElem?_eq_some_iff.mp h).1
 rw[List.getElem?_append_left (by rw[length_set];exact hj),getElem?_set_ne (Ne.symm hne)]
 exact h
theorem Aiv{b r:List Ad}{i:Nat}(h:b[i]? = some c):(b.set i x++r)[i]? = some x:=by
 have hj:=(List.getElem?_eq_some_iff.mp h).1
 rw[List.getElem?_append_left (by rw[length_set];exact hj),getElem?_set_self hj]
theorem Bs{b r:List Ad}{j:Nat}(h:b[j]? = some c):(b++r)[j]? = some c:=by
 rw[List.getElem?_append_left (List.getElem?_eq_some_iff.mp h).1]
 exact h
theorem Ew{b:List Ad}{j:Nat}(h:b[j]? = some c):j < b.length:=(List.getElem?_eq_some_iff.mp h).1
variable {d:Nat} {S:AV}
theorem Atb{l:LL}{cel:List Ad}{pp:Nat}{cd cp:Ad}{rs:List Rl}(hrs:∀r∈rs,C2 r)(hd:cel[5]? = some cd)(hp:cel[pp]? = some cp)(hcp:cp.items=Cx (A5 rs))(hne:5≠pp)(hl:l.pieces=some (.cell pp)):
  ∃cel' pn,Sx (d+4) sL (bL 3) (L' S l cel) .next (L' S {l with names:=some (.cell pn)} cel')∧cel'[5]? = some cd∧cel'[pp]? = some (.f (Cx (A5 rs)))∧cel'[pn]? = some (.m (Ap (D8 (El rs))))∧pn≠5∧pn≠pp:=by
 refine xe (Amk (Kb rs hrs) hcp) λq h=>?_
 have h1:=(h.lift1 (ds:=[]) hp).deeper (m:=d+4) (by exact le_add_left _ _)
 refine⟨cel.set pp (.f (Cx (A5 rs)))++(.m (Ap (D8 (El rs)))::q),cel.length,?_,Me hd hne,Aiv hp,?_,by have:=Ew hd;exact ne_of_gt ‹_›,by have:=Ew hp;exact ne_of_gt ‹_›⟩
 ·obtain⟨numbers,drawn,pieces,names,rules,table,rule,one,two,row,groups,leads,seen,k⟩:=l
  simp only at hl
  subst hl
  exact Azi (Azp rfl (Azf rfl) (Azh (Azf rfl) Azj) h1) rfl
 ·have:cel.length=(cel.set pp (.f (Cx (A5 rs)))).length:=by rw[length_set]
  rw[this]
  exact Be
theorem Avc{l:LL}{cel:List Ad}{pp pn:Nat}{cd cp cn:Ad}{rs:List Rl}(hne0:rs≠[])(hlen:rs.length≤50)(hrs:∀r∈rs,C2 r)(hd:cel[5]? = some cd)(hp:cel[pp]? = some cp)(hn:cel[pn]? = some cn)(hcp:cp.items=Cx (A5 rs))(hcn:cn.items=Ap (D8 (El rs)))
  (h5p:5≠pp) (h5n:pn≠5) (hpn:pn≠pp) (hl:l.pieces=some (.cell pp)) (hl2:l.names=some (.cell pn)):
  ∃cel' pr,Sx (d+4) sL (bL 4) (L' S l cel) .next (L' S {l with rules:=some (.cell pr)} cel')∧cel'[5]? = some cd∧cel'[pn]? = some cn∧cel'[pr]? = some (.m (rs.map Ak))∧pr≠5∧pr≠pn:=by
 refine xa (W3 hrs) λhm hin=>?_
 refine xe (Amf hne0 hlen hm (λr hr=>⟨hrs r hr,hin r hr⟩) hcp hcn) λq h=>?_
 let ps:Nat→Nat:=λi=>if i=0 then pp else pn
 obtain⟨b',e,h1,h2,h3,h4,h5⟩:=h.lift cel ps (λi hi=>by
  have:i=0∨i=1:=by simp at hi;lia
  rcases this with rfl | rfl
  ·exact hp
  ·exact hn) (λi j hi hj e=>by
  have a:i=0∨i=1:=by simp at hi;lia
  have b:j=0∨j=1:=by simp at hj;lia
  rcases a with rfl | rfl<;>rcases b with rfl | rfl
  ·rfl
  ·exact absurd e.symm hpn
  ·exact absurd e hpn
  ·rfl)
 have e':Cl (d+4) (.ref 357) [.cell pp,.cell pn] cel (.cell (cel.length+1)) b':=Cl.deeper (d:=4) (m:=d+4) e (by lia)
 have l5:=Ew hd
 have ln:=Ew hn
 refine⟨b',cel.length+1,?_,?_,?_,?_,by lia,by lia⟩
 ·obtain⟨numbers,drawn,pieces,names,rules,table,rule,one,two,row,groups,leads,seen,k⟩:=l
  simp only at hl hl2
  subst hl;subst hl2
  exact Azi (Azp rfl (Azf rfl) (Azh (Azf rfl) (Azh (Azf rfl) Azj)) e') rfl
 ·rw[h5 5 l5 λi hi=>by
   show(if i=0 then pp else pn)≠5
   split<;>lia]
  exact hd
 ·have:=h3 1 (by simp)
  exact this
 ·have:=h4 3 (by simp)
  exact this
theorem X6(rs:List Rl):F8 (K6 4) (rs.map Ak) (rs.map Ak)=some true:=by
 unfold F8
 rw[if_pos rfl]
 induction rs with
 | nil=>rfl
 | cons r rs ih=>
  have h1:K6 4 (Ak r) (Ak r)=some true:=by
   show some ((lit r.1==lit r.1)&&((Cr r.2.1==Cr r.2.1)&&((lit r.2.2==lit r.2.2)&&true)))=some true
   simp
  show(K6 4 (Ak r) (Ak r)).bind (λa=>(Zk (K6 4) (rs.map Ak) (rs.map Ak)).map λb=>a&&b)=_
  rw[h1,ih]
  rfl
noncomputable def ruE:Expr:=Tp (Dn (bL 5)) 1
theorem Lf(hi:pre.length=i):∀(ns:List Nat) (xs:List D) (v:Option AV),xs.length+ns.length≤100→∃v',Tn (d+3) (Vc ruE) (I2 ruE) i (Dy ruE 0).target (Dy ruE 0).ifs (ns.map Br) ⟨[none,v],pre++[.m xs]⟩ ⟨[none,v'],pre++[.m (xs++ns.map λX=>Ak (Bl X))]⟩
 | [],xs,v,_=>by
  simp only[map_nil,append_nil]
  exact⟨v,.nil⟩
 | X::ns,xs,v,hl=>by
  simp only[length_cons]at hl
  refine xe (Lf hi ns (xs++[Ak (Bl X)]) (some (.d (Br X))) (by rw[length_append,length_singleton];lia)) λv' ih=>?_
  rw[append_assoc,singleton_append]at ih
  refine⟨v',.take (σ₁:=⟨[none,some (.d (Br X))],pre++[.m xs]⟩) (σ₂:=⟨[none,some (.d (Br X))],pre++[.m xs]⟩) (σ₃:=⟨[none,some (.d (Br X))],pre++[.m xs]⟩) (x:=Ak (Bl X)) (cel:=pre++[.m xs]) (xs:=xs) rfl (.inl ⟨rfl,rfl⟩) (Azs (by exact Dc rfl) (Azf rfl) Azo rfl) rfl ?_ (At (by lia)) ?_⟩
  ·rw[←hi];exact Be
  ·rw[←hi,D3,hi]
   exact ih
theorem Ao2{l:LL}{cel:List Ad}{pn pr:Nat}{cd cn:Ad}{ns:List Nat}(hns:ns.length≤50)(hd:cel[5]? = some cd)(hn:cel[pn]? = some cn)(hr:cel[pr]? = some (.m ((ns.map Bl).map Ak)))(hcd:cd.items=ns.map Br)(h5n:pn≠5)(h5r:pr≠5)(hl:l.drawn=some (.cell 5))(hl2:l.rules=some (.cell pr)):
  ∃cel',Sx (d+4) sL (bL 5) (L' S l cel) .next (L' S l cel')∧cel'[pn]? = some cn∧cel'[pr]? = some (.m ((ns.map Bl).map Ak)):=by
 let b:=cel.set 5 (.f (ns.map Br))
 have hit:Ai cel (.cell 5)=some (ns.map Br,b):=by
  show(match cel[5]? with
   | some c=>some (c.items,cel.set 5 (.f c.items))
   | none=>none)=_
  rw[hd]
  simp only[hcd]
  rfl
 refine xe (Lf (d:=d+1) (pre:=b) rfl ns [] none (by simp;exact le_add_left_of_le ‹_›)) λv f=>?_
 rw[nil_append]at f
 have hr':(b++[Ad.m (ns.map λX=>Ak (Bl X))])[pr]? = some (.m ((ns.map Bl).map Ak)):=Me hr h5r
 have hnw:(b++[Ad.m (ns.map λX=>Ak (Bl X))])[b.length]? = some (.m (ns.map λX=>Ak (Bl X))):=Be
 refine⟨b++[.m (ns.map λX=>Ak (Bl X))],?_,Me hn h5n,hr'⟩
 have hcmp:cmp .NotEq (.cell pr) (.cell b.length) (b++[.m (ns.map λX=>Ak (Bl X))])=some false:=by
  rw[Tz (By hr') (By hnw)]
  show(F8 (K6 4) ((ns.map Bl).map Ak) (ns.map λX=>Ak (Bl X))).map _=_
  have e:(ns.map λX=>Ak (Bl X))=(ns.map Bl).map Ak:=by rw[map_map];rfl
  rw[e,X6]
  rfl
 obtain⟨numbers,drawn,pieces,names,rules,table,rule,one,two,row,groups,leads,seen,k⟩:=l
 simp only at hl hl2
 subst hl;subst hl2
 exact Azq (c:=false) (Azt (Azr (Azf rfl) (Ev.lc rfl (Azf rfl) hit rfl rfl f) hcmp)) Azm
end
noncomputable section
open PySem PyProof.Rows
variable {d:Nat} {S:AV}
theorem Cl.headers(d:Nat)(cel:List Ad):Cl (d+1) (.ref 297) [] cel (.hdr cel.length) (cel++[.m []]):=by
 refine⟨1,?_⟩
 exact Adf (G:=G3) (N:=1) (FT:=Ht) (hd:=297) (C:=Gu 1 d)
theorem Awb:Sx (d+1) sL (bL 6) (L' S l cel) .next (L' S {l with table:=some (.hdr cel.length)} (cel++[.m []])):=by
 obtain⟨numbers,drawn,pieces,names,rules,table,rule,one,two,row,groups,leads,seen,k⟩:=l
 exact Azi (Azp rfl (Azf rfl) Azj (Cl.headers d cel)) rfl
theorem Rs(b:List Ad)(s:List D):Ai (b++(Ey++[.m s])) (.cell (b.length+8))=some (s,b++(Ey++[.f s])):=by
 have e1:(b++(Ey++[Ad.m s]))[b.length+8]? = some (.m s):=by
  rw[Vd];rfl
 show(match (b++(Ey++[Ad.m s]))[b.length+8]? with
  | some c=>some (c.items,(b++(Ey++[Ad.m s])).set (b.length+8) (.f c.items))
  | none=>none)=_
 rw[e1]
 show some (s,(b++(Ey++[Ad.m s])).set (b.length+8) (.f s))=_
 rw[set_append_right _ _ (by exact le_add_right _ _),add_sub_cancel_left]
 rfl
noncomputable def bA:Stmt:=sub (Bh (bL 7)) 0
theorem Abg(h1:pn≠pt)(h2:pr≠pt):∀(ps:List (Nat×Nat)) (cel:List Ad) (xs:List D) (l:LL),(∀p∈ps,p.1 < 8∧p.2 < 8)→xs.length+ps.length≤900→cel[pt]? = some (.m xs)→cel[pn]? = some cn→cel[pr]? = some cr→
  ∃cel' one' two',Fr (d+4) sL (Bh bA) (B1 bA) (ps.map Bc) (L' S {l with table:=some (.hdr pt)} cel) .next (L' S {l with table:=some (.hdr pt),one:=one',two:=two'} cel')∧cel'[pt]? = some (.m (xs++ps.map Bc))∧cel'[pn]? = some cn∧cel'[pr]? = some cr
 | [],cel,xs,l,_,_,ht,hn,hr=>⟨cel,l.one,l.two,.nil,by simpa using ht,hn,hr⟩
 | (a,b)::ps,cel,xs,l,hp,hl,ht,hn,hr=>by
  have h0:=hp (a,b) mem_cons_self
  simp only[length_cons]at hl
  have ha:=((P5 h0.1 h0.2 (xs:=xs) (by lia)).lift1h (ds:=[.str (lit a),.str (lit b)]) ht).deeper (m:=d+4) (by exact le_add_left _ _)
  refine Ar (Abg h1 h2 ps (cel.set pt (.m (xs++[Bc (a,b)]))++[.m [.str (lit b)]]) (xs++[Bc (a,b)]) {l with one:=some (A8 a),two:=some (A8 b)} (λp h=>hp p (mem_cons_of_mem _ h)) (by rw[length_append,length_singleton];lia) (Aiv ht) (Me hn h1) (Me hr h2)) λcel' one' two' f t1 t2 t3=>?_
  refine⟨cel',one',two',.next (σ₁:=L' S {l with table:=some (.hdr pt),one:=some (A8 a),two:=some (A8 b)} cel) rfl (Azg (Azu (Ev.hmeth rfl rfl (Azf rfl) (Azh (Azf rfl) (Azh (Azf rfl) Azj)) ha)) Azm) f,?_,t2,t3⟩
  rw[t1,append_assoc];rfl
theorem V4(h1:pn≠pt)(h2:pr≠pt):∀(rs:List Rl) (cel:List Ad) (xs:List D) (l:LL),(∀r∈rs,C2 r)→xs.length+(B2 rs).length≤900→cel[pt]? = some (.m xs)→cel[pn]? = some cn→cel[pr]? = some cr→
  ∃(cel':List Ad) (l':LL),Fr (d+4) sL (Bh (bL 7)) (B1 (bL 7)) (rs.map Ak) (L' S {l with table:=some (.hdr pt)} cel) .next (L' S {l with table:=some (.hdr pt),rule:=l'.rule,one:=l'.one,two:=l'.two} cel')∧cel'[pt]? = some (.m (xs++(B2 rs).map Bc))∧cel'[pn]? = some cn∧cel'[pr]? = some cr
 | [],cel,xs,l,_,_,ht,hn,hr=>⟨cel,l,.nil,by simpa [B2]using ht,hn,hr⟩
 | r::rs,cel,xs,l,hp,hl,ht,hn,hr=>by
  have h0:=hp r mem_cons_self
  have he:B2 (r::rs)=As r++B2 rs:=rfl
  rw[he,length_append]at hl
  have hlt:∀p∈As r,p.1 < 8∧p.2 < 8:=λp hp'=>Qg (rs:=[r]) (λx hx=>by rw[mem_singleton.mp hx];exact h0) (mem_flatMap.mpr ⟨r,mem_singleton.mpr rfl,hp'⟩)
  have st:=(Rm h0.1 h0.2.1 h0.2.2 cel).deeper (m:=d+4) (by lia)
  refine Ar (Abg (d:=d) (S:=S) h1 h2 (As r) (cel++(Ey++[.f ((As r).map Bc)])) xs {l with rule:=some (.d (Ak r))} hlt (by lia) (Bs ht) (Bs hn) (Bs hr)) λcel1 one1 two1 f1 t1 t2 t3=>?_
  refine Jc (V4 h1 h2 rs cel1 (xs++(As r).map Bc) {l with rule:=some (.d (Ak r)),one:=one1,two:=two1} (λx hx=>hp x (mem_cons_of_mem _ hx)) (by rw[length_append,length_map];lia) t1 t2 t3) λcel' l' f2 u1 u2 u3=>?_
  refine⟨cel',l',.next (σ₁:=L' S {l with table:=some (.hdr pt),rule:=some (.d (Ak r))} cel) rfl (Azg (Sx.for (by exact nfb rfl) (Azp rfl (Azf rfl) (Azh (Azf rfl) Azj) st) (Rs cel _) f1) Azm) f2,?_,u2,u3⟩
  rw[u1,he,map_append,append_assoc]
theorem Arg(h1:pn≠pt)(h2:pr≠pt)(h3:pn≠pr)(hrs:∀r∈rs,C2 r)(hl:(B2 rs).length≤900)(ht:cel[pt]? = some (.m []))(hn:cel[pn]? = some cn)(hr:cel[pr]? = some (.m (rs.map Ak)))(hlt:l.table=some (.hdr pt))(hlr:l.rules=some (.cell pr)):
  ∃(cel':List Ad) (l':LL),Sx (d+4) sL (bL 7) (L' S l cel) .next (L' S {l with rule:=l'.rule,one:=l'.one,two:=l'.two} cel')∧cel'[pt]? = some (.m ((B2 rs).map Bc))∧cel'[pn]? = some cn∧cel'[pr]? = some (.f (rs.map Ak)):=by
 have hit:Ai cel (.cell pr)=some (rs.map Ak,cel.set pr (.f (rs.map Ak))):=by
  show(match cel[pr]? with
   | some c=>some (c.items,cel.set pr (.f c.items))
   | none=>none)=_
  rw[hr];rfl
 have t0:(cel.set pr (.f (rs.map Ak)))[pt]? = some (.m []):=by rw[getElem?_set_ne h2];exact ht
 have n0:(cel.set pr (.f (rs.map Ak)))[pn]? = some cn:=by rw[getElem?_set_ne (Ne.symm h3)];exact hn
 have r0:(cel.set pr (.f (rs.map Ak)))[pr]? = some (.f (rs.map Ak)):=getElem?_set_self (Ew hr)
 refine Jc (V4 (d:=d) (S:=S) h1 h2 rs (cel.set pr (.f (rs.map Ak))) [] l hrs (by simp;assumption) t0 n0 r0) λcel' l' f t1 t2 t3=>?_
 rw[nil_append]at t1
 obtain⟨numbers,drawn,pieces,names,rules,table,rule,one,two,row,groups,leads,seen,k⟩:=l
 simp only at hlt hlr
 subst hlt;subst hlr
 exact⟨cel',l',Sx.for (by exact nfa rfl) (Azf rfl) hit f,t1,t2,t3⟩
noncomputable def tiE:Expr:=match Dn (bL 8)with
 | .BinOp _ _ b _=>b
 | e=>e
theorem W7(h:i < 4)(σ:St):binop .Add (.d (.str "~")) (.d (.str (lit i))) σ=some (.d (.str (lit (i+4))),σ):=by
 rcases S7 h with rfl | rfl | rfl | rfl<;>rfl
theorem Js(hi:pre.length=i):∀(ns:List Nat) (xs:List D) (v:Option AV),(∀x∈ns,x < 4)→xs.length+ns.length≤100→∃v',Tn (d+3) (Vc tiE) (I2 tiE) i (Dy tiE 0).target (Dy tiE 0).ifs (Ap (ns.map lit)) ⟨[none,v],pre++[.m xs]⟩ ⟨[none,v'],pre++[.m (xs++Ap (ns.map λx=>lit (x+4)))]⟩
 | [],xs,v,_,_=>by
  refine⟨v,?_⟩
  show Tn _ _ _ _ _ _ _ _ ⟨_,pre++[.m (xs++[])]⟩
  rw[append_nil]
  exact .nil
 | x::ns,xs,v,hx,hl=>by
  simp only[length_cons]at hl
  refine xe (Js hi ns (xs++[.str (lit (x+4))]) (some (A8 x)) (λy hy=>hx y (mem_cons_of_mem _ hy)) (by rw[length_append,length_singleton];lia)) λv' ih=>?_
  rw[append_assoc]at ih
  refine⟨v',.take (σ₁:=⟨[none,some (A8 x)],pre++[.m xs]⟩) (σ₂:=⟨[none,some (A8 x)],pre++[.m xs]⟩) (σ₃:=⟨[none,some (A8 x)],pre++[.m xs]⟩) (x:=.str (lit (x+4))) (cel:=pre++[.m xs]) (xs:=xs) rfl (.inl ⟨rfl,rfl⟩) (Azn Ev.str (Azf rfl) (W7 (hx x mem_cons_self) _)) rfl ?_ (At (by lia)) ?_⟩
  ·rw[←hi];exact Be
  ·rw[←hi,D3,hi]
   exact ih
theorem Ap5(h1:pn≠pt)(h3:pn≠pr)(hn:cel[pn]? = some (.m (Ap (D8 m))))(hr:cel[pr]? = some cr)(ht:cel[pt]? = some ct)(hl:l.names=some (.cell pn)):
  ∃cel' pw,Sx (d+4) sL (bL 8) (L' S l cel) .next (L' S {l with row:=some (.cell pw)} cel')∧cel'[pt]? = some ct∧cel'[pr]? = some cr∧cel'[pw]? = some (.m (Ap ((Ab m).map lit)))∧pw≠pt∧pw≠pr∧cel'.length=pw+1:=by
 let b:=cel.set pn (.f (Ap (D8 m)))
 have hit:Ai cel (.cell pn)=some (Ap (D8 m),b):=by
  show(match cel[pn]? with
   | some c=>some (c.items,cel.set pn (.f c.items))
   | none=>none)=_
  rw[hn];rfl
 have hnl:=Ox m
 have hnm:(Cj m).length≤4:=by unfold D8 at hnl;rw[length_map]at hnl;exact hnl
 refine xe (Js (d:=d+1) (pre:=b) rfl (Cj m) [] none (λx hx=>M4 hx) (by simp;exact le_add_left_of_le ‹_›)) λv f=>?_
 rw[nil_append]at f
 let T:Ad:=.m (Ap ((Cj m).map λx=>lit (x+4)))
 have bn:(b++[T])[pn]? = some (.f (Ap (D8 m))):=Bs (getElem?_set_self (Ew hn))
 have bt:(b++[T])[b.length]? = some T:=Be
 have hcat:binop .Add (.cell pn) (.cell b.length) (L' S l (b++[T]))=some (.cell (b.length+1),L' S l (b++[T]++[.m (Ap ((Ab m).map lit))])):=by
  have e:=Px (σ:=L' S l (b++[T])) bn bt (by show(Ap (D8 m)).length+(Ap ((Cj m).map λx=>lit (x+4))).length≤10000;rw[A4,A4,length_map];lia)
  rw[e]
  have e2:Ap (D8 m)++Ap ((Cj m).map λx=>lit (x+4))=Ap ((Ab m).map lit):=by
   unfold Ap Ab D8
   rw[map_append,map_append,map_map,map_map,map_map,map_map]
   rfl
  show some (AV.cell (b++[T]).length,(⟨_,b++[T]++[Ad.m (Ap (D8 m)++Ap ((Cj m).map λx=>lit (x+4)))]⟩:St))=_
  rw[e2,length_append]
  rfl
 have lt1:=Ew ht
 have lr1:=Ew hr
 have bl:b.length=cel.length:=length_set ..
 refine⟨b++[T]++[.m (Ap ((Ab m).map lit))],b.length+1,?_,Bs (Me ht (Ne.symm h1)),Bs (Me hr (Ne.symm h3)),?_,by lia,by lia,by simp⟩
 ·obtain⟨numbers,drawn,pieces,names,rules,table,rule,one,two,row,groups,leads,seen,k⟩:=l
  simp only at hl
  subst hl
  exact Azi (Azn (Azf rfl) (Ev.lc rfl (Azf rfl) hit rfl rfl f) hcat) rfl
 ·have:b.length+1=(b++[T]).length:=by simp
  rw[this]
  exact Be
end
noncomputable section
open PySem PyProof.Rows
variable {d:Nat} {S:AV}
theorem G0(hif:ifs=[])(he:∀(v:Option AV) cel,Ev d sc elt ⟨[none,v],cel⟩ (.d x) ⟨[none,v],cel⟩)(hb:∀(v:D) (w:Option AV) cel,bindT sc t v ⟨[none,w],cel⟩=some ⟨[none,some (.d v)],cel⟩)(hi:pre.length=i):
  ∀(ds xs:List D) (v:Option AV),xs.length+ds.length≤1000→∃v',Tn d sc elt i t ifs ds ⟨[none,v],pre++[.m xs]⟩ ⟨[none,v'],pre++[.m (xs++ds.map λ_=>x)]⟩
 | [],xs,v,_=>by
  simp only[map_nil,append_nil]
  exact⟨v,.nil⟩
 | y::ds,xs,v,hl=>by
  simp only[length_cons]at hl
  refine xe (G0 hif he hb hi ds (xs++[x]) (some (.d y)) (by rw[length_append,length_singleton];lia)) λv' ih=>?_
  rw[append_assoc,singleton_append]at ih
  refine⟨v',.take (σ₁:=⟨[none,some (.d y)],pre++[.m xs]⟩) (σ₂:=⟨[none,some (.d y)],pre++[.m xs]⟩) (σ₃:=⟨[none,some (.d y)],pre++[.m xs]⟩) (x:=x) (cel:=pre++[.m xs]) (xs:=xs) (hb _ _ _) (.inl ⟨hif,rfl⟩) (he _ _) rfl ?_ (At (by lia)) ?_⟩
  ·rw[←hi];exact Be
  ·rw[←hi,D3,hi]
   exact ih
structure Abu(cel:List Ad)(pr pt pw pg pl ps:Nat)(cr rc:Ad)(E:List (Nat×Nat))(n:Nat)(s:GS):Prop where
 r:cel[pr]? = some cr
 w:cel[pw]? = some rc
 t:∃tc,cel[pt]? = some tc∧tc.items=E.map Bc
 g:cel[pg]? = some (.m (Bv s.groups))
 l:cel[pl]? = some (.m (Al n s.leads))
 s:cel[ps]? = some (.m (Cb n s.seen))
 o:pr < pt∧pt < pw∧pw < pg∧pg < pl∧pl < ps
theorem Aoz{cel:List Ad}{pr pt pw:Nat}{E:List (Nat×Nat)}{R:List Nat}(hR:R.length≤8)(hr:cel[pr]? = some cr)(ht:cel[pt]? = some (.m (E.map Bc)))(hw:cel[pw]? = some (.m (Ap (R.map lit))))(hrt:pr < pt)(htw:pt < pw)(hln:cel.length=pw+1)(hlw:l.row=some (.cell pw)):
  ∃cel' pg pl ps,Abu cel' pr pt pw pg pl ps cr (.f (Ap (R.map lit))) E R.length .init∧∀{fl:Fl} {σ':St},Xs (d+4) sL ((Ft (st 83)).drop 12) (L' S {l with groups:=some (.cell pg),leads:=some (.cell pl),seen:=some (.cell ps)} cel') fl σ'→Xs (d+4) sL ((Ft (st 83)).drop 9) (L' S l cel) fl σ':=by
 let K:Ad:=.f (Ap (R.map lit))
 have sl:(Ap (R.map lit)).length=R.length:=by rw[A4,length_map]
 let c9:=cel++[Ad.m []]
 have w9:c9[pw]? = some (.m (Ap (R.map lit))):=Bs hw
 let b:=c9.set pw K
 have bl:b.length=cel.length+1:=by show(c9.set pw K).length=_;rw[length_set];simp[c9]
 have i10:Ai c9 (.cell pw)=some (Ap (R.map lit),b):=by
  show(match c9[pw]? with
   | some c=>some (c.items,c9.set pw (.f c.items))
   | none=>none)=_
  rw[w9];rfl
 refine xe (G0 (d:=d+4) (sc:=Vc (Dn (bL 10))) (elt:=I2 (Dn (bL 10))) (t:=(Dy (Dn (bL 10)) 0).target) (ifs:=(Dy (Dn (bL 10)) 0).ifs) (x:=.int 0) rfl (λv cel=>Azo) (λv w cel=>rfl) (pre:=b) rfl (Ap (R.map lit)) [] none (by rw[sl];simp;exact le_trans ‹_› (by decide))) λv1 f1=>?_
 rw[nil_append,Ro R.length _ sl]at f1
 let c10:=b++[Ad.m (Al R.length λ_=>0)]
 have w10:c10[pw]? = some K:=Bs (getElem?_set_self (Ew w9))
 have i11:Ai c10 (.cell pw)=some (Ap (R.map lit),c10):=by
  show(match c10[pw]? with
   | some c=>some (c.items,c10.set pw (.f c.items))
   | none=>none)=_
  rw[w10]
  show some (_,c10.set pw K)=_
  rw[U4 w10]
  rfl
 refine xe (G0 (d:=d+4) (sc:=Vc (Dn (bL 11))) (elt:=I2 (Dn (bL 11))) (t:=(Dy (Dn (bL 11)) 0).target) (ifs:=(Dy (Dn (bL 11)) 0).ifs) (x:=.int (-1)) rfl (λv cel=>Ev.neg) (λv w cel=>rfl) (pre:=c10) rfl (Ap (R.map lit)) [] none (by rw[sl];simp;lia)) λv2 f2=>?_
 have e11:((Ap (R.map lit)).map λ_=>D.int (-1))=Cb R.length λ_=>-1:=by
  refine List.ext_getElem? λi=>?_
  unfold Cb
  rw[getElem?_map,getElem?_map]
  by_cases hi:i < R.length
  ·rw[List.getElem?_eq_getElem (by lia),getElem?_range hi];rfl
  ·rw[getElem?_eq_none (by lia),getElem?_eq_none (by simp;exact not_lt.mp ‹_›)];rfl
 rw[nil_append,e11]at f2
 let c11:=c10++[Ad.m (Cb R.length λ_=>-1)]
 have c10l:c10.length=cel.length+2:=by simp[c10,bl]
 have r9:b[pr]? = some cr:=by
  show(c9.set pw K)[pr]? = _
  rw[getElem?_set_ne (by lia)];exact Bs hr
 have t9:b[pt]? = some (.m (E.map Bc)):=by
  show(c9.set pw K)[pt]? = _
  rw[getElem?_set_ne (by exact ne_of_gt ‹_›)];exact Bs ht
 have g9:b[cel.length]? = some (.m []):=by
  show(c9.set pw K)[cel.length]? = _
  rw[getElem?_set_ne (by lia)];exact Be
 refine⟨c11,cel.length,b.length,c10.length,⟨Bs (Bs r9),Bs w10,⟨_,Bs (Bs t9),rfl⟩,Bs (Bs g9),Bs Be,Be,hrt,htw,by exact le_of_eq (Eq.symm ‹_›),by exact le_of_eq (Eq.symm ‹_›),by lia⟩,fun{fl σ'} hx=>?_⟩
 obtain⟨numbers,drawn,pieces,names,rules,table,rule,one,two,row,groups,leads,seen,k⟩:=l
 simp only at hlw
 subst hlw
 refine Azg (Azi (Ev.list Azj rfl rfl) rfl) ?_
 refine Azg (Azi (Ev.lc rfl (Azf rfl) i10 rfl rfl f1) rfl) ?_
 exact Azg (Azi (Ev.lc rfl (Azf rfl) i11 rfl rfl f2) rfl) hx
theorem Ad9(n:Nat)(s:GS):Gs n s≤n:=by
 unfold Gs
 exact le_trans (length_filter_le _ _) (by rw[length_range];exact le_refl _)
def Inc:Nat→List Nat→Prop
 | _,[]=>True
 | a,b::l=>a < b∧Inc b l
theorem Alp:∀(L:List Nat) (a:Nat),Inc a L→(∀b∈L,a < b)∧(a::L).Nodup
 | [],a,_=>⟨λ_ h=>(nomatch h),nodup_cons.mpr ⟨not_mem_nil,nodup_nil⟩⟩
 | b::l,a,h=>
  have x:=Alp l b h.2
  have y:∀c∈b::l,a < c:=λc hc=>(mem_cons.mp hc).elim (λe=>e▸h.1) λhc=>lt_trans h.1 (x.1 c hc)
  ⟨y,nodup_cons.mpr ⟨λhm=>lt_irrefl _ (y a hm),x.2⟩⟩
noncomputable def Afq(i:Nat):Nat:=([5,6,4,2,3,1,0]:List Nat)[i]?.getD 0
theorem Ag2:∀i,i < 7→Afq i < 7:=by decide
theorem Aed:∀i,i < 7→∀j,j < 7→Afq i=Afq j→i=j:=by decide
theorem Zo(hR:Do R)(hE:M8 R E)(hrc:rc.items=Ap (R.map lit)):∀(ks:List Nat) (l:LL) (s:GS) (cel:List Ad),(∀k∈ks,k < R.length)→Abu cel pr pt pw pg pl ps cr rc E R.length s→Mj R.length (Ca R E) [] s→s.pile=[]→s.bounds=[]→
  ∃cel' s' k',Fr (d+12) sL (Bh (bL 12)) (B1 (bL 12)) (Ac ks) (L' S {l with table:=some (.hdr pt),row:=some (.cell pw),groups:=some (.cell pg),leads:=some (.cell pl),seen:=some (.cell ps)} cel) .next (L' S {l with table:=some (.hdr pt),row:=some (.cell pw),groups:=some (.cell pg),leads:=some (.cell pl),seen:=some (.cell ps),k:=k'} cel')∧
   Abu cel' pr pt pw pg pl ps cr rc E R.length s'∧Mj R.length (Ca R E) [] s'∧s'.pile=[]∧s'.bounds=[]∧(∀x,s.seen x≠ -1→s'.seen x≠ -1)∧∀k∈ks,s'.seen k≠ -1
 | [],l,s,cel,_,h,v,hp,hb=>⟨cel,s,l.k,.nil,h,v,hp,hb,λ_ h=>h,λk hk=>by exact nomatch hk⟩
 | k::ks,l,s,cel,hk,h,v,hp,hb=>by
  have hn:=hR.len
  have hkn:=hk k mem_cons_self
  let Lk:LL:={l with table:=some (.hdr pt),row:=some (.cell pw),groups:=some (.cell pg),leads:=some (.cell pl),seen:=some (.cell ps),k:=some (num k)}
  have step:∃cel1 s1,Xs (d+12) sL (Bh (bL 12)) (L' S Lk cel) .next (L' S Lk cel1)∧Abu cel1 pr pt pw pg pl ps cr rc E R.length s1∧Mj R.length (Ca R E) [] s1∧s1.pile=[]∧s1.bounds=[]∧(∀x,s.seen x≠ -1→s1.seen x≠ -1)∧s1.seen k≠ -1:=by
   have it:item (.cell ps) (num k) cel=some (.d (.int (s.seen k))):=A2 h.s (Hg _ hkn) (by show(Cb R.length s.seen).length≤1000;rw[Cf];lia)
   by_cases hw:s.seen k = -1
   ·refine Aj h.t λtc t1 t2=>?_
    refine I3 (Lz hR hE hrc R.length k [] s tc [] v hkn hw (λx hx=>by rw[hp]at hx;exact nomatch hx) (λx hx=>by exact nomatch hx) (Ad9 _ _) t2) λs' tc' r' hc ht' he hi hs1 hs2=>?_
    let B:=cel.length
    let b:=cel++[Ad.m []]++[Ad.m []]
    have g0:b[B]? = some (.m []):=Bs Be
    have g1:b[B+1]? = some (.m []):=by
     have:B+1=(cel++[Ad.m []]).length:=by simp[B]
     rw[this];exact Be
    have up:∀{j:Nat} {c:Ad},cel[j]? = some c→b[j]? = some c:=λh=>Bs (Bs h)
    refine Qj h.o λo1 o2 o3 o4 o5=>?_
    have psl:=Ew h.s
    have bl:b.length=B+2:=by simp[b,B]
    let f:Nat→Nat:=λi=>match i with
     | 0=>B
     | 1=>B+1
     | 2=>ps
     | 3=>pg
     | 4=>pl
     | 5=>pw
     | _=>pt
    have hal:(mk R.length s rc tc []).length=7:=rfl
    have lt7:∀{i:Nat},i < 7→i=0∨i=1∨i=2∨i=3∨i=4∨i=5∨i=6:=by decide
    have hpn:mk R.length s rc tc []=[.m [],.m [],.m (Cb R.length s.seen),.m (Bv s.groups),.m (Al R.length s.leads),rc,tc]:=by
     unfold mk
     rw[hp,hb];rfl
    have nd:=Alp [pw,pg,pl,ps,B,B+1] pt ⟨o2,o3,o4,o5,psl,lt_succ_self _,trivial⟩
    have hf:∀i,i < 7→[pt,pw,pg,pl,ps,B,B+1][Afq i]? = some (f i):=λi hi=>by
     rcases lt7 hi with rfl | rfl | rfl | rfl | rfl | rfl | rfl<;>rfl
    obtain⟨b',e,x1,x2,x3,x4,x5⟩:=hc.lift b f (λi hi=>by
     rw[hal]at hi
     rw[hpn]
     rcases lt7 hi with rfl | rfl | rfl | rfl | rfl | rfl | rfl
     ·exact g0
     ·exact g1
     ·exact up h.s
     ·exact up h.g
     ·exact up h.l
     ·exact up h.w
     ·exact up t1) (λi j hi hj e=>by
     rw[hal]at hi hj
     exact Aed i hi j hj ((getElem?_inj (Ag2 i hi) nd.2).mp (by rw[hf i hi,hf j hj,e])))
    have e':Cl (d+12) (.ref 371) [num k,.cell pw,.hdr pt,.cell B,.cell (B+1),.cell ps,.cell pg,.cell pl] b (.d .none) b':=Cl.deeper e (by lia)
    have hb':s'.bounds=[]:=by
     cases hbd:s'.bounds with
     | nil=>rfl
     | cons y ys=>
      have:=he.bounds y (by rw[hbd];exact mem_cons_self)
      rw[hb]at this;exact nomatch this
    have hp':s'.pile=[]:=by
     apply Classical.byContradiction
     intro hne
     have:=hi.b0 hne
     rw[hb']at this;exact nomatch this
    refine⟨b',s',?_,⟨?_,x3 5 (by rw[hal];decide),⟨tc',x3 6 (by rw[hal];decide),ht'⟩,x3 3 (by rw[hal];decide),x3 4 (by rw[hal];decide),x3 2 (by rw[hal];decide),h.o⟩,hi,hp',hb',λx hx=>by rw[(he.seen x hx).1];exact hx,hs1⟩
    ·have eB1:(cel++[Ad.m []]).length=B+1:=by exact length_append
     refine Azg (Azq (c:=true) (Azt (Azr (Azs (by exact Dc rfl) (Azf rfl) (Azf rfl) it) Ev.neg ?_)) (Azg (Azu (Azp rfl (Azf rfl) (Azh (Azf rfl) (Azh (Azf rfl) (Azh (Azf rfl) (Azh (Ev.list (ds:=[]) (cel:=cel) Azj rfl rfl) (Azh (Ev.list (ds:=[]) (cel:=cel++[.m []]) Azj rfl rfl) (Azh (Azf rfl) (Azh (Azf rfl) (Azh (Azf rfl) Azj)))))))) ?_)) Azm)) Azm
     ·show some (s.seen k == -1)=some true
      rw[hw];rfl
     ·rw[eB1]
      exact e'
    ·rw[x5 pr (by rw[bl];have:=Ew h.r;exact lt_add_right _ ‹_›) λi hi'=>by
      rw[hal]at hi'
      refine ne_of_gt (lt_of_lt_of_le o1 ?_)
      exact(mem_cons.mp (mem_of_getElem? (hf i hi'))).elim (λe=>le_of_eq e.symm) λhm=>le_of_lt (nd.1 _ hm)]
     exact up h.r
   ·refine⟨cel,s,?_,h,v,hp,hb,λ_ h=>h,hw⟩
    refine Azg (Azq (c:=false) (Azt (Azr (Azs (by exact Dc rfl) (Azf rfl) (Azf rfl) it) Ev.neg ?_)) Azm) Azm
    show some (s.seen k == -1)=some false
    rw[beq_false_of_ne hw]
  refine Nr step λcel1 s1 hx h1 v1 hp1 hb1 m1 n1=>?_
  clear step
  refine T7 (Zo hR hE hrc ks {l with k:=some (num k)} s1 cel1 (λx hx=>hk x (mem_cons_of_mem _ hx)) h1 v1 hp1 hb1) λcel' s' k' f h' v' hp' hb' m' n'=>?_
  refine⟨cel',s',k',.next (σ₁:=L' S Lk cel) rfl hx f,h',v',hp',hb',λx hx=>m' x (m1 x hx),λx hx=>?_⟩
  rcases mem_cons.mp hx with rfl | hx
  ·exact m' _ n1
  ·exact n' x hx
end
noncomputable section
open PySem PyProof.Rows
variable {d:Nat} {S:AV}
theorem Amz(hm:m < 16)(hr:∀r∈rs,C2 r)(hin:Qq m rs)(h:Abu cel pr pt pw pg pl ps cr rc (B2 rs) (Ab m).length s)(h0:cr.items=rs.map Ak)(h1:rc.items=Ap ((Ab m).map lit))
  (D:Mo (Ab m).length (Ca (Ab m) (B2 rs)) s.groups s.leads) (hgl:s.groups.length≤8):∃cel',Cl (d+4) (.ref 376) [.cell pr,.cell pw,.cell pg,.cell pl] cel (.d (.bool true)) cel':=by
 refine xe (Ac3 (d:=d) hm hr hin D hgl (c0:=cr) (c1:=rc) (c2:=.m (Bv s.groups)) (c3:=.m (Al (Ab m).length s.leads)) h0 h1 rfl rfl) λc' hc=>?_
 refine Qj h.o λo1 o2 o3 o4 o5=>?_
 let f:Nat→Nat:=λi=>match i with
  | 0=>pr
  | 1=>pw
  | 2=>pg
  | _=>pl
 have lt:∀{i:Nat},i < [cr,rc,Ad.m (Bv s.groups),.m (Al (Ab m).length s.leads)].length→i=0∨i=1∨i=2∨i=3:=λh=>by simp at h;lia
 obtain⟨b',e,_⟩:=hc.lift cel f (λi hi=>by
  rcases lt hi with rfl | rfl | rfl | rfl
  ·exact h.r
  ·exact h.w
  ·exact h.g
  ·exact h.l) (λi j hi hj e=>by
  have hf:∀i,i < 4→[pr,pw,pg,pl][i]? = some (f i):=λi hi=>by
   rcases lt hi with rfl | rfl | rfl | rfl<;>rfl
  exact(getElem?_inj (l:=[pr,pw,pg,pl]) hi (Alp [pw,pg,pl] pr ⟨lt_trans o1 o2,o3,o4,trivial⟩).2).mp (by rw[hf i hi,hf j hj,e]))
 exact⟨b',e⟩
theorem W5(r:Rl):(As r).length≤6:=by
 have:(Dw r.2.1).length≤3:=by unfold Dw;split<;>simp
 rw[Lc]
 have key:∀l:List (Bool×Bool),(l.flatMap (Eb r.1 r.2.2)).length=2*l.length:=by
  intro l
  induction l with
  | nil=>rfl
  | cons x l ih=>rw[flatMap_cons,length_append,ih];simp[Eb];exact add_comm _ _
 rw[key];lia
theorem Oj:∀(rs:List Rl),(B2 rs).length≤6*rs.length
 | []=>le_refl _
 | r::rs=>by
  have h1:=W5 r
  have h2:=Oj rs
  show(As r++B2 rs).length≤_
  rw[length_append,length_cons];lia
theorem R0(l:List Int):(G5 l).length=5:=by
 unfold G5
 have:(l.take 5).length≤5:=by rw[length_take];lia
 rw[length_append,length_drop]
 show(l.take 5).length+(5 - (l.take 5).length)=5
 omega
theorem law_true(l:List Int)(hl:l.length≤63):∃cel,Cl 60 (.ref 381) [.d (.lst (l.map .int))] [] (.d (.bool true)) cel:=by
 let S:AV:=.d (.lst (A3 l))
 let Xs':List Nat:=(G5 l).map drX
 have hX:Xs'.length=5:=by show((G5 l).map drX).length=5;rw[length_map,R0]
 let rs:List Rl:=Xs'.map Bl
 have hrl:rs.length=5:=by show(Xs'.map Bl).length=5;rw[length_map,hX]
 have hrs:∀r∈rs,C2 r:=λr hr=>by
  refine Aj (mem_map.mp hr) λX _ z=>?_
  subst z
  exact V1 X
 have hne:rs≠[]:=λe=>by rw[e]at hrl;cases hrl
 refine xa (W3 hrs) λhm hinM=>?_
 have hin:=Akq hrs hinM
 have hR:=Pj hm
 have hel:=Oj rs
 have hE:M8 (Ab (El rs)) (B2 rs):=⟨λp hp=>hin p hp,by lia⟩
 have s0:=Awh (d:=58) hl
 let pre:List Ad:=[.m (A3 (l.take 5)),.m (A3 B5),.m (A3 (l.take 5)),.m (A3 (B5.drop (l.take 5).length)),.f (A3 (G5 l))]
 refine Op (Lh (d:=56) (pre:=pre) rfl (G5 l) [] [] none (by rw[R0];decide)) λv1 q1 f1=>?_
 rw[nil_append]at f1
 have ep:((G5 l).map λx=>Br (drX x))=Xs'.map Br:=by show _=((G5 l).map drX).map Br;rw[map_map];rfl
 rw[ep]at f1
 refine Jc (Aq2 (d:=55) (S:=S) (l:={numbers:=some (.cell 4),drawn:=some (.cell 5)}) (pre:=pre) (q:=q1) (Xs':=Xs') (by lia) rfl rfl) λc2 pp s2 d2 p2 n2=>?_
 refine Lm (Atb (d:=55) (S:=S) (l:={numbers:=some (.cell 4),drawn:=some (.cell 5),pieces:=some (.cell pp)}) hrs d2 p2 rfl n2 rfl) λc3 pn s3 d3 p3 n3 e3 g3=>?_
 refine Lm (Avc (d:=55) (S:=S) (l:={numbers:=some (.cell 4),drawn:=some (.cell 5),pieces:=some (.cell pp),names:=some (.cell pn)}) hne (by lia) hrs d3 p3 n3 rfl rfl n2 e3 g3 rfl rfl) λc4 pr s4 d4 n4 r4 e4 g4=>?_
 refine D7 (Ao2 (d:=55) (S:=S) (l:={numbers:=some (.cell 4),drawn:=some (.cell 5),pieces:=some (.cell pp),names:=some (.cell pn),rules:=some (.cell pr)}) (ns:=Xs') (by lia) d4 n4 r4 rfl e3 e4 rfl rfl) λc5 s5 n5 r5=>?_
 have s6:=Awb (d:=58) (S:=S) (l:={numbers:=some (.cell 4),drawn:=some (.cell 5),pieces:=some (.cell pp),names:=some (.cell pn),rules:=some (.cell pr)}) (cel:=c5)
 have hpn:=Ew n5
 have hpr:=Ew r5
 refine Jc (Arg (d:=55) (S:=S) (l:={numbers:=some (.cell 4),drawn:=some (.cell 5),pieces:=some (.cell pp),names:=some (.cell pn),rules:=some (.cell pr),table:=some (.hdr c5.length)}) (cel:=c5++[.m []]) (pt:=c5.length) (pn:=pn) (pr:=pr) (rs:=rs) (by exact ne_of_lt ‹_›) (by lia) (Ne.symm g4) hrs (by lia) Be (Bs n5) (Bs r5) rfl rfl) λc7 l7 s7 t7 n7 r7=>?_
 refine Nr (Ap5 (d:=55) (S:=S) (l:={numbers:=some (.cell 4),drawn:=some (.cell 5),pieces:=some (.cell pp),names:=some (.cell pn),rules:=some (.cell pr),table:=some (.hdr c5.length),rule:=l7.rule,one:=l7.one,two:=l7.two}) (pt:=c5.length) (pr:=pr) (m:=El rs) (by lia) (Ne.symm g4) n7 r7 t7 rfl) λc8 pw s8 t8 r8 w8 e8 g8 k8=>?_
 have ht8:=Ew t8
 have hr8:=Ew r8
 refine Zz (Aoz (d:=55) (S:=S) (l:={numbers:=some (.cell 4),drawn:=some (.cell 5),pieces:=some (.cell pp),names:=some (.cell pn),rules:=some (.cell pr),table:=some (.hdr c5.length),rule:=l7.rule,one:=l7.one,two:=l7.two,row:=some (.cell pw)}) (E:=B2 rs) hR.len r8 t8 w8 (by assumption) (by lia) k8 rfl) λc11 pg pl ps hold s9=>?_
 obtain⟨c12,s',k',f12,hold',v',hp',hb',_,hw'⟩:=Zo (d:=47) (S:=S) hR hE (pr:=pr) (pt:=c5.length) (pw:=pw) (pg:=pg) (pl:=pl) (ps:=ps) (cr:=.f (rs.map Ak)) (rc:=.f (Ap ((Ab (El rs)).map lit))) rfl (List.range (Ab (El rs)).length)
  {numbers:=some (.cell 4),drawn:=some (.cell 5),pieces:=some (.cell pp),names:=some (.cell pn),rules:=some (.cell pr),rule:=l7.rule,one:=l7.one,two:=l7.two} .init c11 (λk hk=>mem_range.mp hk) hold (Acq _ _) rfl rfl
 have D:=Aeq v' hp' λx hx=>hw' x (mem_range.mpr hx)
 refine xe (Amz (d:=55) hm hrs hin hold' rfl rfl D (le_trans v'.glen hR.len)) λc13 h13=>?_
 have hn8:=hR.len
 refine⟨c13,?_⟩
 apply Cl.ret (loc:=[some S,none,none,none,none,none,none,none,none,none,none,none,none,none,none,none,none,none,none,none,none,none,none,none,none]) rfl rfl rfl
 refine Azg s0 ?_
 refine Azg (σ₁:=L' S {numbers:=some (.cell 4),drawn:=some (.cell 5)} (pre ++ .m (Xs'.map Br)::q1)) (Azi (Ev.lc rfl (Azf rfl) rfl rfl rfl f1) rfl) ?_
 refine Azg s2 (Azg s3 (Azg s4 (Azg s5 (Azg s6 (Azg s7 (Azg s8 (s9 ?_)))))))
 refine Azg (Sx.for (by exact nfb rfl) (Azp rfl (Azf rfl) (Azh (Azp rfl (Azf rfl) (Azh (Azf rfl) Azj) (Ih (c:=.f (Ap ((Ab (El rs)).map lit))) hold.w (by show(Ap ((Ab (El rs)).map lit)).length=_;rw[A4,length_map]) (by exact le_add_left_of_le ‹_›))) Azj) (Cl.range (by lia) _)) (Dz (by lia) _) f12) ?_
 exact Xs.ret (Sx.ret (Azp rfl (Azf rfl) (Azh (Azf rfl) (Azh (Azf rfl) (Azh (Azf rfl) (Azh (Azf rfl) Azj)))) h13))
end
noncomputable section
open PySem PySem.W PySem.Calls PyProof.Rows PySem.Spec
noncomputable abbrev Es:OpenRow:=PySem.Challenge.rw_wf0121_01.row
def Aix(n:Nat):Prop:=∀l:List Int,l.length≤63→∃N cel,Gu N n (.ref 381) [.d (.lst (l.map .int))] []=some (.d (.bool true),cel)
theorem Qy:∀(l:List Int) (s:Shared),∃vs tk,layAllW R cl P ord (l.map WData.int) s=some (vs,{s with toks:=tk})∧∀B,Reps B (l.map D.int) vs
 | [],s=>⟨[],s.toks,rfl,λB=>Reps.nil⟩
 | i::l,s=>by
  refine Kt (Qy (R:=R) (cl:=cl) (P:=P) (ord:=ord) l {s with toks:=s.toks+1}) λvs tk h1 h2=>?_
  refine⟨.int i s.toks::vs,tk,?_,λB=>Reps.cons (by simp only[Er];exact⟨_,rfl⟩) (h2 B)⟩
  simp only[map_cons,layAllW,layW,h1]
theorem Abk(h:WShape.hasAll [] args [.list .int]=true):∃l:List Int,args=[.list (l.map WData.int)]:=by
 refine Cc (hasAllW_cons h) λd r z h1 h2=>?_
 subst z
 have hr:r=[]:=hasAllW_nil h2
 subst hr
 refine Aj (hasW_list h1) λxs z h3=>?_
 subst z
 refine xe (items_int h3) λl z=>?_
 subst z
 exact⟨l,rfl⟩
theorem Xq:frees Es.toRowW=true:=by kernel_rfl
theorem Amn(g:Nat→Obj)(w:World):globalOf (Ae g w) "law" = some (.ref 381):=(Pin.globalOf_eq (Pe g w) _).trans (by kernel_rfl)
theorem Ae9:∃a b c,A6.theDef "law" = some (a,b,c)∧a=fnP (st 83)∧b=Ft (st 83)∧c=Ke (st 83):=⟨fnP (st 83),Ft (st 83),Ke (st 83),by kernel_rfl,rfl,rfl,rfl⟩
theorem Ahk(g:Nat→Obj)(w:World):isTheDefsW A6 (Ae g w) "law" := by
 refine Ar Ae9 λa b c h z z1 z2=>?_
 subst z
 subst z1
 subst z2
 exact⟨381,_,Aq (Ld w.params),_,_,_,Amn g w,Ajb g w,rfl,h,by kernel_rfl,by kernel_rfl,rfl,rfl,rfl,rfl,rfl,rfl,⟨.inl ⟨by kernel_rfl,by kernel_rfl⟩,[],by kernel_rfl,.inl ⟨rfl,by kernel_rfl⟩⟩⟩
theorem wit:Es.toRowW.promised:=⟨[.list [.int 3,.int 1]],by decide +kernel,by decide +kernel⟩
theorem Ahu:A6.bare:=⟨rfl,rfl,rfl,rfl,rfl,by kernel_rfl⟩
theorem Abm:opensWell A6=true:=by kernel_rfl
theorem Uh(l:List Int)(h:Es.toRowW.pre.holds Es.toRowW.records {args:=[.list (l.map WData.int)]}=true):l.length≤63:=by
 have e:Es.toRowW.pre = .and (.not (.lt (.lit (.int 63)) (.len (.arg 0)))) (.lit (.bool true)):=by rfl
 rw[e]at h
 simp[WTm.holds,WTm.value]at h
 have hl:W.less? (WData.int 63) (WData.int (l.length:Int))=some (decide ((63:Int) < (l.length:Int))):=rfl
 rw[hl]at h
 by_cases hc:(63:Int) < (l.length:Int)
 ·rw[decide_eq_true hc]at h;simp at h
 ·omega
theorem Adg(hp:Aix 60):Es.toRowW.claim.HoldsOpenBy (callStub "law") ["law"] Es.keeps false:=by
 refine Qj (frees_parts Xq) λhsame hu ha hap hm=>?_
 refine⟨⟨Ahu,Abm,by rfl⟩,RowW.promised.witness wit,λw=>⟨(head w).1,λs hs=>?_⟩⟩
 obtain⟨s₀,hf,hg0,g,os,hb3,hT,hz⟩:=(head w).2 s hs
 refine⟨s₀,hf,hg0,Hn g w os,hT,λn hn=>?_,(λx hx=>nomatch hx),(λx hx=>nomatch hx),?_⟩
 ·rw[mem_singleton.mp hn];exact Ahk g w
 refine ClaimW.callFrom_of_specN (c:=Es.toRowW.claim) (tree:=λvs=>do match ←nsGet mainNs "law" with
   | some f=>do ret (←PySem.call f vs)
   | none=>unsupported "claim.caller:no-such-global") hz (by show leftWithCleanup (#[]:Array GenState)=false;simp[leftWithCleanup]) λargs hpre hlay ord hord=>?_
 refine xe (Abk (pre_splitW hpre).1) λl z1=>?_
 subst z1
 have hl63:=Uh l (pre_splitW hpre).2
 refine Kt (Qy (R:=[]) (cl:=classAt (Hn g w os).heap) (P:=w.params) (ord:=ord) l (Hn g w os)) λvs tk h1 h2=>?_
 have hlaid:layAllW [] (classAt (Hn g w os).heap) w.params ord [.list (l.map WData.int)] (Hn g w os)=some ([.ref (Ae g w).objs.size],{Hn g w os with heap:=(Ae g w).push (Bp vs.toArray 0),toks:=tk}):=by
  simp only[layAllW,layW,h1]
  rfl
 refine⟨_,_,hlaid,?_⟩
 refine D7 (reads_layAllW hord _ _ _ hlaid hlay _ (λ_ _ e=>e)) λas hrd hin hold=>?_
 have hal:=layAllW_rest _ _ _ hlaid
 have keeps:=layAllW_keeps _ _ _ hlaid
 have hwi:Es.toRowW.claim.within=[]:=rfl
 have hi:=ident_freeW hu ha hap
 generalize hs1:({Hn g w os with heap:=(Ae g w).push (Bp vs.toArray 0),toks:=tk}:Shared)=s₁ at *
 have hgens:s₁.gens = #[]:=by rw[←hs1];rfl
 have hsame1:({s₁ with gens := #[]}:Shared)=s₁:=by rw[←hs1];rfl
 have hK:Bo (Hn g w os).heap s₁.heap:=keeps
 refine Op (hp l hl63) λN cel hrun=>?_
 have hC:=Ab7 g hb3 w os N 60
 have hcl:=hC.call _ _ _ _ _ rfl hrun
 have x:B7 (A0 g w os) (λ_=>none) s₁.heap.get? [] [] s₁:=by
  refine⟨⟨⟨s₁.heap,s₁.toks,by rw[←hs1];rfl⟩,hK,λ_ _ e=>e,λ_ _ e=>by exact Am e⟩,⟨rfl,λi a e=>by simp at e,λi xs e=>by simp at e,λi xs e=>by simp at e,nodup_nil⟩⟩
 have hobj:s₁.heap.get? (Ae g w).objs.size=some (Bp vs.toArray 0):=by
  rw[←hs1]
  show((Ae g w).push (Bp vs.toArray 0)).get? (Ae g w).objs.size=_
  exact Heap.get?_push_size _ rfl
 have va:H2 (A0 g w os) s₁.heap.get? [] [.d (.lst (l.map .int))] [.ref (Ae g w).objs.size]:=by
  refine .cons ?_ .nil
  simp only[VR,Er]
  exact⟨_,0,vs.toArray,rfl,hobj,by simpa using h2 _⟩
 have hroom:Dk (60+2) callerA:=⟨rfl,by decide,by decide⟩
 have hcall:wpAny (model A6 w) callerA (call (.ref 381) [.ref (Ae g w).objs.size]) (λv s'=>GoodW Es.toRowW.claim (classAt (Hn g w os).heap) (ExcName.means (Hn g w os).heap) [.list (l.map WData.int)] {s₁ with gens := #[]} (.ok (.ret v)) s') (λ_ _=>False) s₁:=by
  refine hcl callerA (λ_=>none) s₁.heap.get? [] s₁ _ _ _ hroom x va λB' φ' s' cv y m hv=>?_
  have hv:cv = .bool true:=by simpa [VR,Er]using hv
  subst hv
  refine Op y.base.same λhh tt he=>?_
  refine⟨.inl ⟨.bool true,.bool true,[],rfl,λ_=>rfl,.bool true,?_,λ_=>⟨nodup_nil,λa h=>nomatch h⟩⟩,λb o e=>y.base.sub _ _ (m.base _ _ e),?_,?_⟩
  ·kernel_rfl
  ·rw[he,←hs1];rfl
  ·rw[he];rfl
 have hns:s₁.heap.Ns mainGlobals ((Ae g w).nsMap mainGlobals):=(Heap.Ns.of_isNs (Pe g w)).keeps hK
 have hlaw:(Ae g w).nsMap mainGlobals "law" = some (.ref 381):=by kernel_rfl
 rw[hsame1]
 refine wpAny_bind (wpAny_nsGet hns ?_)
 rw[hlaw]
 refine wpAny_bind (wpAny_mono hcall (λv s' gd=>wpAny_pure ⟨_,rfl,?_⟩) λ_ _ f=>f.elim)
 have z:=gd.endsN (c:=Es.toRowW.claim) hsame hwi hi hrd hold hal.2.2.1
 exact⟨z.1,z.2.1,z.2.2,λq=>nomatch q⟩
noncomputable abbrev lw:=PySem.Challenge.rw_wf0121_01
noncomputable abbrev lp:=lw.row.prog
theorem q1:(sreFenced lp.main&&((moduleNames lp.main.body).isEmpty||lookedIntoSs (moduleNames lp.main.body) lp.main.body))=true:=by kernel_rfl
theorem q3:namesResolve lp=true:=by kernel_rfl
theorem q4:lp.boundNames.all (λn=>!worldNames.contains n)=true:=by kernel_rfl
theorem q5:noRoadLSs {strict:=!(importedModules lp.main.body).all cThrough.contains,foot:=none,bare:=(["vars","dir","locals"]:List Str).filter (readsOut lp lp.main.body)} lp.main.body=true:=by kernel_rfl
theorem q6:(namesMeet lp lp.main.body λ_ n=>attrL n)=true:=by kernel_rfl
theorem Bg(h:a=true)(h':b=true):(a&&b)=true:=by rw[h,h'];rfl
theorem Aoq:looksOpen lp=true:=Bg (Bg (Bg (Bg q1 q3) q4) q5) q6
theorem part:lw.row.partSaid=true:=(Bg (Bg (Bg (Bg (Bg (Bg (Bg (Bg (Bg (Bg (Bg (Bg (Bg Aoq (by kernel_rfl)) (by kernel_rfl)) (by kernel_rfl)) (by kernel_rfl)) (by kernel_rfl)) (by kernel_rfl)) (by kernel_rfl)) (by kernel_rfl)) (by kernel_rfl)) (by kernel_rfl)) (by kernel_rfl)) (by kernel_rfl)) (by kernel_rfl))
theorem Ati:lw.row.wellSaid=true:=(Bg (Bg part (by kernel_rfl)) (by kernel_rfl))
theorem Axi:lw.wellSaid=true:=(Bg (Bg (Bg (Bg (Bg (Bg (Bg (Bg (Bg (Bg (Bg (Bg (Bg (Bg (Bg (Bg (Bg (Bg Ati (by kernel_rfl)) (by kernel_rfl)) (by kernel_rfl)) (by kernel_rfl)) (by kernel_rfl)) (by kernel_rfl)) (by kernel_rfl)) (by kernel_rfl)) (by kernel_rfl)) (by kernel_rfl)) (by kernel_rfl)) (by kernel_rfl)) (by kernel_rfl)) (by kernel_rfl)) (by kernel_rfl)) (by kernel_rfl)) (by kernel_rfl)) (by kernel_rfl))
theorem law_of(hp:Aix 60):PySem.Challenge.rw_wf0121_01.Holds:=⟨Axi,Ati,wit,Adg hp⟩
end
end Mine
theorem PySem.Challenge.cw_wf0121_01_holds : PySem.Challenge.rw_wf0121_01.Holds :=
 Mine.law_of λl hl=>let ⟨cel,N,h⟩:=Mine.law_true l hl;⟨N,cel,h⟩
