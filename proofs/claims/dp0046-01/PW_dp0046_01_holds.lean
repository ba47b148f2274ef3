import PyProof.Rows.All
import Wide.All
import OpenK.AllK
import Wide.FinOn
import Lean
import PySem.Challenge.RW_dp0046_01
open PySem PySem.W PyProof.Rows PySem.Calls
set_option Elab.async false
set_option compiler.extract_closed false
set_option hygiene false
set_option tactic.hygienic false
set_option maxRecDepth 100000
set_option maxHeartbeats 40000000
set_option linter.all false
open Nat (add_sub_cancel_left le_antisymm le_of_eq le_of_not_lt le_refl le_succ le_succ_of_le le_trans lt_irrefl lt_mul_div_succ lt_of_le_of_lt lt_of_le_of_ne lt_of_lt_of_le lt_of_not_le lt_or_ge lt_succ_of_lt lt_succ_self lt_trans lt_trichotomy min_eq_left min_eq_right min_le_left min_le_right mul_div_le ne_of_gt ne_of_lt not_lt pos_of_ne_zero sub_le succ_le_succ zero_add zero_le)
open Bool (and_eq_false_iff and_eq_true and_eq_true_iff false_eq_true or_eq_false_iff or_eq_true)
open List (append_assoc append_nil drop_eq_getElem_cons drop_eq_nil_of_le drop_sublist drop_zero ext_getElem filter_eq_self foldl_cons forIn_cons forIn_nil getElem_map getElem_mem getElem_of_mem getElem_take length_append length_cons length_drop length_map length_range length_range' length_set length_take length_zip map_congr_left map_cons map_nil map_take mem_append mem_append_left mem_append_right mem_cons mem_cons_of_mem mem_filterMap mem_flatMap mem_map mem_of_mem_take mem_or_eq_of_mem_set mem_range mem_singleton nil_append nodup_range not_mem_nil pairwise_append pairwise_cons pairwise_iff_getElem pairwise_map pairwise_singleton perm_append_comm size_toArray take_append_drop take_of_length_le take_sublist take_succ_cons take_zero zipIdx_cons)
open Int (toNat_natCast)
namespace Mine.Internal
noncomputable section
def ep {α:Type} (P:α->Prop) (ne:Nonempty α):α:=@Classical.epsilon α ne fun a=>¬ P a
theorem eps {α:Type} {ne:Nonempty α} {P:α->Prop} (h:P (ep P ne)) (a:α):P a:=
 Classical.byContradiction fun hn=>(@Classical.epsilon_spec α (fun a=>¬ P a) ⟨a,hn⟩) h
def U2 {t0 t1:Type} (P:t0->t1->Prop) (c:t0×t1):Prop:=P c.1 c.2
theorem eP2 {t0 t1:Type} {P:t0->t1->Prop} {ne} (h:U2 P (ep (U2 P) ne)) x0 x1:P x0 x1:=eps h (x0,x1)
def U4 {t0 t1 t2 t3:Type} (P:t0->t1->t2->t3->Prop) (c:t0×t1×t2×t3):Prop:=U2 (P c.1 c.2.1) c.2.2
def U5 {t0 t1 t2 t3 t4:Type} (P:t0->t1->t2->t3->t4->Prop) (c:t0×t1×t2×t3×t4):Prop:=U4 (P c.1) c.2
def U6 {t0 t1 t2 t3 t4 t5:Type} (P:t0->t1->t2->t3->t4->t5->Prop) (c:t0×t1×t2×t3×t4×t5):Prop:=U5 (P c.1) c.2
def U7 {t0 t1 t2 t3 t4 t5 t6:Type} (P:t0->t1->t2->t3->t4->t5->t6->Prop) (c:t0×t1×t2×t3×t4×t5×t6):Prop:=U6 (P c.1) c.2
theorem eP7 {t0 t1 t2 t3 t4 t5 t6:Type} {P:t0->t1->t2->t3->t4->t5->t6->Prop} {ne} (h:U7 P (ep (U7 P) ne)) x0 x1 x2 x3 x4 x5 x6:P x0 x1 x2 x3 x4 x5 x6:=eps h (x0,x1,x2,x3,x4,x5,x6)
def U8 {t0 t1 t2 t3 t4 t5 t6 t7:Type} (P:t0->t1->t2->t3->t4->t5->t6->t7->Prop) (c:t0×t1×t2×t3×t4×t5×t6×t7):Prop:=U7 (P c.1) c.2
theorem eP8 {t0 t1 t2 t3 t4 t5 t6 t7:Type} {P:t0->t1->t2->t3->t4->t5->t6->t7->Prop} {ne} (h:U8 P (ep (U8 P) ne)) x0 x1 x2 x3 x4 x5 x6 x7:P x0 x1 x2 x3 x4 x5 x6 x7:=eps h (x0,x1,x2,x3,x4,x5,x6,x7)
def U10 {t0 t1 t2 t3 t4 t5 t6 t7 t8 t9:Type} (P:t0->t1->t2->t3->t4->t5->t6->t7->t8->t9->Prop) (c:t0×t1×t2×t3×t4×t5×t6×t7×t8×t9):Prop:=U8 (P c.1 c.2.1) c.2.2
theorem eP10 {t0 t1 t2 t3 t4 t5 t6 t7 t8 t9:Type} {P:t0->t1->t2->t3->t4->t5->t6->t7->t8->t9->Prop} {ne} (h:U10 P (ep (U10 P) ne)) x0 x1 x2 x3 x4 x5 x6 x7 x8 x9:P x0 x1 x2 x3 x4 x5 x6 x7 x8 x9:=eps h (x0,x1,x2,x3,x4,x5,x6,x7,x8,x9)
def U11 {t0 t1 t2 t3 t4 t5 t6 t7 t8 t9 t10:Type} (P:t0->t1->t2->t3->t4->t5->t6->t7->t8->t9->t10->Prop) (c:t0×t1×t2×t3×t4×t5×t6×t7×t8×t9×t10):Prop:=U10 (P c.1) c.2
theorem eP11 {t0 t1 t2 t3 t4 t5 t6 t7 t8 t9 t10:Type} {P:t0->t1->t2->t3->t4->t5->t6->t7->t8->t9->t10->Prop} {ne} (h:U11 P (ep (U11 P) ne)) x0 x1 x2 x3 x4 x5 x6 x7 x8 x9 x10:P x0 x1 x2 x3 x4 x5 x6 x7 x8 x9 x10:=eps h (x0,x1,x2,x3,x4,x5,x6,x7,x8,x9,x10)
def U12 {t0 t1 t2 t3 t4 t5 t6 t7 t8 t9 t10 t11:Type} (P:t0->t1->t2->t3->t4->t5->t6->t7->t8->t9->t10->t11->Prop) (c:t0×t1×t2×t3×t4×t5×t6×t7×t8×t9×t10×t11):Prop:=U11 (P c.1) c.2
theorem eP12 {t0 t1 t2 t3 t4 t5 t6 t7 t8 t9 t10 t11:Type} {P:t0->t1->t2->t3->t4->t5->t6->t7->t8->t9->t10->t11->Prop} {ne} (h:U12 P (ep (U12 P) ne)) x0 x1 x2 x3 x4 x5 x6 x7 x8 x9 x10 x11:P x0 x1 x2 x3 x4 x5 x6 x7 x8 x9 x10 x11:=eps h (x0,x1,x2,x3,x4,x5,x6,x7,x8,x9,x10,x11)
def U13 {t0 t1 t2 t3 t4 t5 t6 t7 t8 t9 t10 t11 t12:Type} (P:t0->t1->t2->t3->t4->t5->t6->t7->t8->t9->t10->t11->t12->Prop) (c:t0×t1×t2×t3×t4×t5×t6×t7×t8×t9×t10×t11×t12):Prop:=U12 (P c.1) c.2
def U14 {t0 t1 t2 t3 t4 t5 t6 t7 t8 t9 t10 t11 t12 t13:Type} (P:t0->t1->t2->t3->t4->t5->t6->t7->t8->t9->t10->t11->t12->t13->Prop) (c:t0×t1×t2×t3×t4×t5×t6×t7×t8×t9×t10×t11×t12×t13):Prop:=U13 (P c.1) c.2
def U15 {t0 t1 t2 t3 t4 t5 t6 t7 t8 t9 t10 t11 t12 t13 t14:Type} (P:t0->t1->t2->t3->t4->t5->t6->t7->t8->t9->t10->t11->t12->t13->t14->Prop) (c:t0×t1×t2×t3×t4×t5×t6×t7×t8×t9×t10×t11×t12×t13×t14):Prop:=U14 (P c.1) c.2
def U17 {t0 t1 t2 t3 t4 t5 t6 t7 t8 t9 t10 t11 t12 t13 t14 t15 t16:Type} (P:t0->t1->t2->t3->t4->t5->t6->t7->t8->t9->t10->t11->t12->t13->t14->t15->t16->Prop) (c:t0×t1×t2×t3×t4×t5×t6×t7×t8×t9×t10×t11×t12×t13×t14×t15×t16):Prop:=U15 (P c.1 c.2.1) c.2.2
def U18 {t0 t1 t2 t3 t4 t5 t6 t7 t8 t9 t10 t11 t12 t13 t14 t15 t16 t17:Type} (P:t0->t1->t2->t3->t4->t5->t6->t7->t8->t9->t10->t11->t12->t13->t14->t15->t16->t17->Prop) (c:t0×t1×t2×t3×t4×t5×t6×t7×t8×t9×t10×t11×t12×t13×t14×t15×t16×t17):Prop:=U17 (P c.1) c.2
theorem eP18 {t0 t1 t2 t3 t4 t5 t6 t7 t8 t9 t10 t11 t12 t13 t14 t15 t16 t17:Type} {P:t0->t1->t2->t3->t4->t5->t6->t7->t8->t9->t10->t11->t12->t13->t14->t15->t16->t17->Prop} {ne} (h:U18 P (ep (U18 P) ne)) x0 x1 x2 x3 x4 x5 x6 x7 x8 x9 x10 x11 x12 x13 x14 x15 x16 x17:P x0 x1 x2 x3 x4 x5 x6 x7 x8 x9 x10 x11 x12 x13 x14 x15 x16 x17:=eps h (x0,x1,x2,x3,x4,x5,x6,x7,x8,x9,x10,x11,x12,x13,x14,x15,x16,x17)
def U19 {t0 t1 t2 t3 t4 t5 t6 t7 t8 t9 t10 t11 t12 t13 t14 t15 t16 t17 t18:Type} (P:t0->t1->t2->t3->t4->t5->t6->t7->t8->t9->t10->t11->t12->t13->t14->t15->t16->t17->t18->Prop) (c:t0×t1×t2×t3×t4×t5×t6×t7×t8×t9×t10×t11×t12×t13×t14×t15×t16×t17×t18):Prop:=U18 (P c.1) c.2
theorem eP19 {t0 t1 t2 t3 t4 t5 t6 t7 t8 t9 t10 t11 t12 t13 t14 t15 t16 t17 t18:Type} {P:t0->t1->t2->t3->t4->t5->t6->t7->t8->t9->t10->t11->t12->t13->t14->t15->t16->t17->t18->Prop} {ne} (h:U19 P (ep (U19 P) ne)) x0 x1 x2 x3 x4 x5 x6 x7 x8 x9 x10 x11 x12 x13 x14 x15 x16 x17 x18:P x0 x1 x2 x3 x4 x5 x6 x7 x8 x9 x10 x11 x12 x13 x14 x15 x16 x17 x18:=eps h (x0,x1,x2,x3,x4,x5,x6,x7,x8,x9,x10,x11,x12,x13,x14,x15,x16,x17,x18)
def U20 {t0 t1 t2 t3 t4 t5 t6 t7 t8 t9 t10 t11 t12 t13 t14 t15 t16 t17 t18 t19:Type} (P:t0->t1->t2->t3->t4->t5->t6->t7->t8->t9->t10->t11->t12->t13->t14->t15->t16->t17->t18->t19->Prop) (c:t0×t1×t2×t3×t4×t5×t6×t7×t8×t9×t10×t11×t12×t13×t14×t15×t16×t17×t18×t19):Prop:=U19 (P c.1) c.2
def U22 {t0 t1 t2 t3 t4 t5 t6 t7 t8 t9 t10 t11 t12 t13 t14 t15 t16 t17 t18 t19 t20 t21:Type} (P:t0->t1->t2->t3->t4->t5->t6->t7->t8->t9->t10->t11->t12->t13->t14->t15->t16->t17->t18->t19->t20->t21->Prop) (c:t0×t1×t2×t3×t4×t5×t6×t7×t8×t9×t10×t11×t12×t13×t14×t15×t16×t17×t18×t19×t20×t21):Prop:=U20 (P c.1 c.2.1) c.2.2
def U23 {t0 t1 t2 t3 t4 t5 t6 t7 t8 t9 t10 t11 t12 t13 t14 t15 t16 t17 t18 t19 t20 t21 t22:Type} (P:t0->t1->t2->t3->t4->t5->t6->t7->t8->t9->t10->t11->t12->t13->t14->t15->t16->t17->t18->t19->t20->t21->t22->Prop) (c:t0×t1×t2×t3×t4×t5×t6×t7×t8×t9×t10×t11×t12×t13×t14×t15×t16×t17×t18×t19×t20×t21×t22):Prop:=U22 (P c.1) c.2
def U24 {t0 t1 t2 t3 t4 t5 t6 t7 t8 t9 t10 t11 t12 t13 t14 t15 t16 t17 t18 t19 t20 t21 t22 t23:Type} (P:t0->t1->t2->t3->t4->t5->t6->t7->t8->t9->t10->t11->t12->t13->t14->t15->t16->t17->t18->t19->t20->t21->t22->t23->Prop) (c:t0×t1×t2×t3×t4×t5×t6×t7×t8×t9×t10×t11×t12×t13×t14×t15×t16×t17×t18×t19×t20×t21×t22×t23):Prop:=U23 (P c.1) c.2
def U25 {t0 t1 t2 t3 t4 t5 t6 t7 t8 t9 t10 t11 t12 t13 t14 t15 t16 t17 t18 t19 t20 t21 t22 t23 t24:Type} (P:t0->t1->t2->t3->t4->t5->t6->t7->t8->t9->t10->t11->t12->t13->t14->t15->t16->t17->t18->t19->t20->t21->t22->t23->t24->Prop) (c:t0×t1×t2×t3×t4×t5×t6×t7×t8×t9×t10×t11×t12×t13×t14×t15×t16×t17×t18×t19×t20×t21×t22×t23×t24):Prop:=U24 (P c.1) c.2
def U26 {t0 t1 t2 t3 t4 t5 t6 t7 t8 t9 t10 t11 t12 t13 t14 t15 t16 t17 t18 t19 t20 t21 t22 t23 t24 t25:Type} (P:t0->t1->t2->t3->t4->t5->t6->t7->t8->t9->t10->t11->t12->t13->t14->t15->t16->t17->t18->t19->t20->t21->t22->t23->t24->t25->Prop) (c:t0×t1×t2×t3×t4×t5×t6×t7×t8×t9×t10×t11×t12×t13×t14×t15×t16×t17×t18×t19×t20×t21×t22×t23×t24×t25):Prop:=U25 (P c.1) c.2
def U28 {t0 t1 t2 t3 t4 t5 t6 t7 t8 t9 t10 t11 t12 t13 t14 t15 t16 t17 t18 t19 t20 t21 t22 t23 t24 t25 t26 t27:Type} (P:t0->t1->t2->t3->t4->t5->t6->t7->t8->t9->t10->t11->t12->t13->t14->t15->t16->t17->t18->t19->t20->t21->t22->t23->t24->t25->t26->t27->Prop) (c:t0×t1×t2×t3×t4×t5×t6×t7×t8×t9×t10×t11×t12×t13×t14×t15×t16×t17×t18×t19×t20×t21×t22×t23×t24×t25×t26×t27):Prop:=U26 (P c.1 c.2.1) c.2.2
def U31 {t0 t1 t2 t3 t4 t5 t6 t7 t8 t9 t10 t11 t12 t13 t14 t15 t16 t17 t18 t19 t20 t21 t22 t23 t24 t25 t26 t27 t28 t29 t30:Type} (P:t0->t1->t2->t3->t4->t5->t6->t7->t8->t9->t10->t11->t12->t13->t14->t15->t16->t17->t18->t19->t20->t21->t22->t23->t24->t25->t26->t27->t28->t29->t30->Prop) (c:t0×t1×t2×t3×t4×t5×t6×t7×t8×t9×t10×t11×t12×t13×t14×t15×t16×t17×t18×t19×t20×t21×t22×t23×t24×t25×t26×t27×t28×t29×t30):Prop:=U28 (P c.1 c.2.1 c.2.2.1) c.2.2.2
def U35 {t0 t1 t2 t3 t4 t5 t6 t7 t8 t9 t10 t11 t12 t13 t14 t15 t16 t17 t18 t19 t20 t21 t22 t23 t24 t25 t26 t27 t28 t29 t30 t31 t32 t33 t34:Type} (P:t0->t1->t2->t3->t4->t5->t6->t7->t8->t9->t10->t11->t12->t13->t14->t15->t16->t17->t18->t19->t20->t21->t22->t23->t24->t25->t26->t27->t28->t29->t30->t31->t32->t33->t34->Prop) (c:t0×t1×t2×t3×t4×t5×t6×t7×t8×t9×t10×t11×t12×t13×t14×t15×t16×t17×t18×t19×t20×t21×t22×t23×t24×t25×t26×t27×t28×t29×t30×t31×t32×t33×t34):Prop:=U31 (P c.1 c.2.1 c.2.2.1 c.2.2.2.1) c.2.2.2.2
def U42 {t0 t1 t2 t3 t4 t5 t6 t7 t8 t9 t10 t11 t12 t13 t14 t15 t16 t17 t18 t19 t20 t21 t22 t23 t24 t25 t26 t27 t28 t29 t30 t31 t32 t33 t34 t35 t36 t37 t38 t39 t40 t41:Type} (P:t0->t1->t2->t3->t4->t5->t6->t7->t8->t9->t10->t11->t12->t13->t14->t15->t16->t17->t18->t19->t20->t21->t22->t23->t24->t25->t26->t27->t28->t29->t30->t31->t32->t33->t34->t35->t36->t37->t38->t39->t40->t41->Prop) (c:t0×t1×t2×t3×t4×t5×t6×t7×t8×t9×t10×t11×t12×t13×t14×t15×t16×t17×t18×t19×t20×t21×t22×t23×t24×t25×t26×t27×t28×t29×t30×t31×t32×t33×t34×t35×t36×t37×t38×t39×t40×t41):Prop:=U35 (P c.1 c.2.1 c.2.2.1 c.2.2.2.1 c.2.2.2.2.1 c.2.2.2.2.2.1 c.2.2.2.2.2.2.1) c.2.2.2.2.2.2.2
inductive X2 {α0 α1:Type} (P:α0->α1->Prop):Prop
 | i (a0:α0) (a1:α1) (h:P a0 a1):X2 P
inductive X3 {α0 α1 α2:Type} (P:α0->α1->α2->Prop):Prop
 | i (a0:α0) (a1:α1) (a2:α2) (h:P a0 a1 a2):X3 P
inductive X4 {α0 α1 α2 α3:Type} (P:α0->α1->α2->α3->Prop):Prop
 | i (a0:α0) (a1:α1) (a2:α2) (a3:α3) (h:P a0 a1 a2 a3):X4 P
inductive X5 {α0 α1 α2 α3 α4:Type} (P:α0->α1->α2->α3->α4->Prop):Prop
 | i (a0:α0) (a1:α1) (a2:α2) (a3:α3) (a4:α4) (h:P a0 a1 a2 a3 a4):X5 P
inductive X6 {α0 α1 α2 α3 α4 α5:Type} (P:α0->α1->α2->α3->α4->α5->Prop):Prop
 | i (a0:α0) (a1:α1) (a2:α2) (a3:α3) (a4:α4) (a5:α5) (h:P a0 a1 a2 a3 a4 a5):X6 P
inductive X7 {α0 α1 α2 α3 α4 α5 α6:Type} (P:α0->α1->α2->α3->α4->α5->α6->Prop):Prop
 | i (a0:α0) (a1:α1) (a2:α2) (a3:α3) (a4:α4) (a5:α5) (a6:α6) (h:P a0 a1 a2 a3 a4 a5 a6):X7 P
inductive X8 {α0 α1 α2 α3 α4 α5 α6 α7:Type} (P:α0->α1->α2->α3->α4->α5->α6->α7->Prop):Prop
 | i (a0:α0) (a1:α1) (a2:α2) (a3:α3) (a4:α4) (a5:α5) (a6:α6) (a7:α7) (h:P a0 a1 a2 a3 a4 a5 a6 a7):X8 P
inductive X9 {α0 α1 α2 α3 α4 α5 α6 α7 α8:Type} (P:α0->α1->α2->α3->α4->α5->α6->α7->α8->Prop):Prop
 | i (a0:α0) (a1:α1) (a2:α2) (a3:α3) (a4:α4) (a5:α5) (a6:α6) (a7:α7) (a8:α8) (h:P a0 a1 a2 a3 a4 a5 a6 a7 a8):X9 P
inductive X10 {α0 α1 α2 α3 α4 α5 α6 α7 α8 α9:Type} (P:α0->α1->α2->α3->α4->α5->α6->α7->α8->α9->Prop):Prop
 | i (a0:α0) (a1:α1) (a2:α2) (a3:α3) (a4:α4) (a5:α5) (a6:α6) (a7:α7) (a8:α8) (a9:α9) (h:P a0 a1 a2 a3 a4 a5 a6 a7 a8 a9):X10 P
inductive A3 (p0 p1 p2:Prop):Prop
 | i (h0:p0) (h1:p1) (h2:p2):A3 p0 p1 p2
inductive A4 (p0 p1 p2 p3:Prop):Prop
 | i (h0:p0) (h1:p1) (h2:p2) (h3:p3):A4 p0 p1 p2 p3
inductive A5 (p0 p1 p2 p3 p4:Prop):Prop
 | i (h0:p0) (h1:p1) (h2:p2) (h3:p3) (h4:p4):A5 p0 p1 p2 p3 p4
inductive A6 (p0 p1 p2 p3 p4 p5:Prop):Prop
 | i (h0:p0) (h1:p1) (h2:p2) (h3:p3) (h4:p4) (h5:p5):A6 p0 p1 p2 p3 p4 p5
inductive A7 (p0 p1 p2 p3 p4 p5 p6:Prop):Prop
 | i (h0:p0) (h1:p1) (h2:p2) (h3:p3) (h4:p4) (h5:p5) (h6:p6):A7 p0 p1 p2 p3 p4 p5 p6
inductive A8 (p0 p1 p2 p3 p4 p5 p6 p7:Prop):Prop
 | i (h0:p0) (h1:p1) (h2:p2) (h3:p3) (h4:p4) (h5:p5) (h6:p6) (h7:p7):A8 p0 p1 p2 p3 p4 p5 p6 p7
inductive A9 (p0 p1 p2 p3 p4 p5 p6 p7 p8:Prop):Prop
 | i (h0:p0) (h1:p1) (h2:p2) (h3:p3) (h4:p4) (h5:p5) (h6:p6) (h7:p7) (h8:p8):A9 p0 p1 p2 p3 p4 p5 p6 p7 p8
inductive A10 (p0 p1 p2 p3 p4 p5 p6 p7 p8 p9:Prop):Prop
 | i (h0:p0) (h1:p1) (h2:p2) (h3:p3) (h4:p4) (h5:p5) (h6:p6) (h7:p7) (h8:p8) (h9:p9):A10 p0 p1 p2 p3 p4 p5 p6 p7 p8 p9
inductive A11 (p0 p1 p2 p3 p4 p5 p6 p7 p8 p9 p10:Prop):Prop
 | i (h0:p0) (h1:p1) (h2:p2) (h3:p3) (h4:p4) (h5:p5) (h6:p6) (h7:p7) (h8:p8) (h9:p9) (h10:p10):A11 p0 p1 p2 p3 p4 p5 p6 p7 p8 p9 p10
inductive A14 (p0 p1 p2 p3 p4 p5 p6 p7 p8 p9 p10 p11 p12 p13:Prop):Prop
 | i (h0:p0) (h1:p1) (h2:p2) (h3:p3) (h4:p4) (h5:p5) (h6:p6) (h7:p7) (h8:p8) (h9:p9) (h10:p10) (h11:p11) (h12:p12) (h13:p13):A14 p0 p1 p2 p3 p4 p5 p6 p7 p8 p9 p10 p11 p12 p13
theorem e4_8 {α0 α1 α2 α3:Type} {P0 P1 P2 P3 P4 P5 P6 P7:α0->α1->α2->α3->Prop} {G:Prop} (h:X4 fun a0 a1 a2 a3=>A8 (P0 a0 a1 a2 a3) (P1 a0 a1 a2 a3) (P2 a0 a1 a2 a3) (P3 a0 a1 a2 a3) (P4 a0 a1 a2 a3) (P5 a0 a1 a2 a3) (P6 a0 a1 a2 a3) (P7 a0 a1 a2 a3)) (k:∀ a0 a1 a2 a3,P0 a0 a1 a2 a3->P1 a0 a1 a2 a3->P2 a0 a1 a2 a3->P3 a0 a1 a2 a3->P4 a0 a1 a2 a3->P5 a0 a1 a2 a3->P6 a0 a1 a2 a3->P7 a0 a1 a2 a3->G):G:=X4.casesOn h fun a0 a1 a2 a3 g=>A8.casesOn g (k a0 a1 a2 a3)
theorem yDE {α0 α1 α2 α3 α4:Type} {P0 P1 P2 P3 P4 P5 P6 P7 P8 P9 P10:α0->α1->α2->α3->α4->Prop} {G:Prop} (h:X5 fun a0 a1 a2 a3 a4=>A11 (P0 a0 a1 a2 a3 a4) (P1 a0 a1 a2 a3 a4) (P2 a0 a1 a2 a3 a4) (P3 a0 a1 a2 a3 a4) (P4 a0 a1 a2 a3 a4) (P5 a0 a1 a2 a3 a4) (P6 a0 a1 a2 a3 a4) (P7 a0 a1 a2 a3 a4) (P8 a0 a1 a2 a3 a4) (P9 a0 a1 a2 a3 a4) (P10 a0 a1 a2 a3 a4)) (k:∀ a0 a1 a2 a3 a4,P0 a0 a1 a2 a3 a4->P1 a0 a1 a2 a3 a4->P2 a0 a1 a2 a3 a4->P3 a0 a1 a2 a3 a4->P4 a0 a1 a2 a3 a4->P5 a0 a1 a2 a3 a4->P6 a0 a1 a2 a3 a4->P7 a0 a1 a2 a3 a4->P8 a0 a1 a2 a3 a4->P9 a0 a1 a2 a3 a4->P10 a0 a1 a2 a3 a4->G):G:=X5.casesOn h fun a0 a1 a2 a3 a4 g=>A11.casesOn g (k a0 a1 a2 a3 a4)
theorem yDD {α0 α1 α2 α3 α4 α5 α6 α7:Type} {P0 P1 P2 P3 P4 P5 P6 P7 P8 P9 P10 P11 P12 P13:α0->α1->α2->α3->α4->α5->α6->α7->Prop} {G:Prop} (h:X8 fun a0 a1 a2 a3 a4 a5 a6 a7=>A14 (P0 a0 a1 a2 a3 a4 a5 a6 a7) (P1 a0 a1 a2 a3 a4 a5 a6 a7) (P2 a0 a1 a2 a3 a4 a5 a6 a7) (P3 a0 a1 a2 a3 a4 a5 a6 a7) (P4 a0 a1 a2 a3 a4 a5 a6 a7) (P5 a0 a1 a2 a3 a4 a5 a6 a7) (P6 a0 a1 a2 a3 a4 a5 a6 a7) (P7 a0 a1 a2 a3 a4 a5 a6 a7) (P8 a0 a1 a2 a3 a4 a5 a6 a7) (P9 a0 a1 a2 a3 a4 a5 a6 a7) (P10 a0 a1 a2 a3 a4 a5 a6 a7) (P11 a0 a1 a2 a3 a4 a5 a6 a7) (P12 a0 a1 a2 a3 a4 a5 a6 a7) (P13 a0 a1 a2 a3 a4 a5 a6 a7)) (k:∀ a0 a1 a2 a3 a4 a5 a6 a7,P0 a0 a1 a2 a3 a4 a5 a6 a7->P1 a0 a1 a2 a3 a4 a5 a6 a7->P2 a0 a1 a2 a3 a4 a5 a6 a7->P3 a0 a1 a2 a3 a4 a5 a6 a7->P4 a0 a1 a2 a3 a4 a5 a6 a7->P5 a0 a1 a2 a3 a4 a5 a6 a7->P6 a0 a1 a2 a3 a4 a5 a6 a7->P7 a0 a1 a2 a3 a4 a5 a6 a7->P8 a0 a1 a2 a3 a4 a5 a6 a7->P9 a0 a1 a2 a3 a4 a5 a6 a7->P10 a0 a1 a2 a3 a4 a5 a6 a7->P11 a0 a1 a2 a3 a4 a5 a6 a7->P12 a0 a1 a2 a3 a4 a5 a6 a7->P13 a0 a1 a2 a3 a4 a5 a6 a7->G):G:=X8.casesOn h fun a0 a1 a2 a3 a4 a5 a6 a7 g=>A14.casesOn g (k a0 a1 a2 a3 a4 a5 a6 a7)
theorem np1 {l k nb:Nat} (h:¬ l - k=0):k+(l - k+nb) - l=nb:=by
 rw [<- Nat.add_assoc,Nat.add_sub_cancel' (Nat.le_of_lt (Nat.lt_of_sub_ne_zero h)),add_sub_cancel_left]
theorem np5 (n:Nat):n<=2 * (n / 2+max 0 (n % 2))/\n / 2+max 0 (n % 2)<=n:=by
 rw [Nat.zero_max]
 have e:=Nat.div_add_mod n 2
 exact ⟨le_trans (le_of_eq e.symm) (by rw [Nat.mul_add];exact Nat.add_le_add_left (Nat.le_mul_of_pos_left _ (by decide)) _),le_trans (Nat.add_le_add_right (Nat.le_mul_of_pos_left _ (by decide)) _) (le_of_eq e)⟩
theorem np6 {x y:Int} {a b:Nat}:(x < y\/x=y/\a < b)\/(¬ y < x/\(¬ y=x\/¬ b < a))/\a < b->-y < -x\/-x=-y/\a < b:=by
 rintro ((h | ⟨h1,h2⟩) | ⟨⟨h1,h2⟩,h3⟩)
 ·exact .inl (Int.neg_lt_neg h)
 ·exact .inr ⟨congrArg _ h1,h2⟩
 ·rcases Int.lt_or_eq_of_le (Int.not_lt.mp h1) with h | h
  ·exact .inl (Int.neg_lt_neg h)
  ·exact .inr ⟨congrArg _ h,h3⟩
theorem ltZ {n N:Nat} {z:Int} (h:n<=N) (hz:(N:Int) < z):(n:Int) < z:=Int.lt_of_le_of_lt (Int.ofNat_le.mpr h) hz
theorem np7 {r N:Nat} (h:r<=N) (h2:N<=100000):(((r:Int) < 9223372036854775808/\(N:Int) < 9223372036854775808)/\((N - r:Nat):Int) < 9223372036854775808)/\(N - r=0\/(N:Int) < 9223372036854775808):=
 ⟨⟨⟨ltZ (le_trans h h2) (by decide),ltZ h2 (by decide)⟩,ltZ (le_trans (sub_le _ _) h2) (by decide)⟩,.inr (ltZ h2 (by decide))⟩
theorem np8 {n a i:Nat} (hn:0 < n) (h:a<=i):a+n - 1 - i < n:=
 lt_of_le_of_lt (Nat.sub_le_of_le_add (by rw [Nat.add_sub_assoc hn,Nat.add_comm];exact Nat.add_le_add_left h _)) (Nat.sub_lt hn Nat.one_pos)
theorem np9 {n:Nat} (h:0 < n):(-1+(n:Int)).toNat=n - 1:=by
 obtain ⟨m,rfl⟩:=Nat.exists_eq_succ_of_ne_zero (ne_of_gt h)
 rw [Int.natCast_succ,Int.add_comm,Int.add_assoc];rfl
theorem np11 {m N n1 r:Nat} (h0:N<=2 * r) (h1:N<=2 * n1) (h2:m<=N - n1) (h3:¬ m < r):m=N - n1:=
 le_antisymm h2 (Nat.sub_le_of_le_add (le_trans (by rcases Nat.le_total r n1 with h | h;exact le_trans h0 (by rw [Nat.two_mul];exact Nat.add_le_add_left h _);exact le_trans h1 (by rw [Nat.two_mul];exact Nat.add_le_add_right h _)) (Nat.add_le_add_right (le_of_not_lt h3) n1)))
theorem np12 {wish:Int} {N j:Nat} (h:wish<=(j:Int)):min N wish.toNat<=j:=le_trans (min_le_right _ _) (Int.toNat_le.mpr h)
theorem yDv {wish:Int} {N j:Nat} (hj:j < N) (h:min N wish.toNat<=j):wish<=(j:Int):=Int.toNat_le.mp (by rcases Nat.le_total N wish.toNat with z | z;rw [min_eq_left z] at h;exact absurd hj (not_lt.mpr h);rw [min_eq_right z] at h;exact h)
theorem np13 {c:Nat} (h:¬ c=0):(c:Int) - 1=((c - 1:Nat):Int):=(Int.ofNat_sub (pos_of_ne_zero h)).symm
theorem np14 {n:Nat}:(n:Int) % 2=0↔n % 2=0:=⟨fun h=>Int.ofNat_inj.mp ((Int.natCast_emod n 2).trans h),fun h=>(Int.natCast_emod n 2).symm.trans (congrArg _ h)⟩
theorem np20 {x y:Int} {a b:Nat}:y < x\/x=y/\a < b->¬ (x < y\/y=x/\b < a):=by
 rintro (h | ⟨h,h2⟩) (k | ⟨k,k2⟩)
 ·exact absurd h (Int.not_lt.mpr (Int.le_of_lt k))
 ·exact absurd h (by rw [k];exact Int.lt_irrefl _)
 ·exact absurd k (by rw [h];exact Int.lt_irrefl _)
 ·exact absurd h2 (Nat.lt_asymm k2)
theorem np22:∀ {i:Nat},i < 5->i=0\/i=1\/i=2\/i=3\/i=4:=by decide
theorem np26 {c:Nat} (h:0 < c):((c:Int) - 1) / 2=(((c - 1) / 2:Nat):Int):=by
 rw [Int.natCast_ediv,Int.ofNat_sub h];rfl
theorem np19 {n:Nat} {k:Int} (h0:0<=k) (h:k < (n:Int)):k.toNat < n:=(Int.toNat_lt h0).mpr h
theorem ltJ {j N:Nat} (h:j < N) (h2:N < 128):(j:Int) < 1000:=Int.lt_of_lt_of_le (Int.ofNat_lt.mpr (lt_trans h h2)) (by decide)
theorem yDu {w:Int} {n N:Nat} (h:n=min w.toNat N) (h0:0 < n):1<=w:=(Int.lt_toNat.mp (lt_of_lt_of_le h0 (h ▸ min_le_left _ _)):((0:Nat):Int) < w)
theorem np32 {n w N j:Nat} (h:n=min w N) (h1:n<=j) (h2:j < N):n=w:=by
 rcases Nat.le_total w N with z | z
 ·rw [h,min_eq_left z]
 ·rw [min_eq_right z] at h;exact absurd h2 (not_lt.mpr (h ▸ h1))
theorem np34 {w:Int} {j N:Nat} (h:j < min w.toNat N):(j:Int) < w:=Int.lt_toNat.mp (lt_of_lt_of_le h (min_le_left _ _))
theorem yDt {r:Nat} (h:r<=100000):(r:Int) < 9223372036854775808/\(r=0\/(r:Int) < 9223372036854775808):=⟨ltZ h (by decide),.inr (ltZ h (by decide))⟩
theorem np36:∀ {i:Nat},i < 3->i=0\/i=1\/i=2:=by decide
theorem yDs {x y:Int} {a b:Nat} (h:¬ x < y) (hab:a < b):y < x\/x=y/\a < b:=(Int.lt_or_eq_of_le (Int.not_lt.mp h)).imp id fun q=>⟨q.symm,hab⟩
theorem np39 {n:Nat} (h:n<=1000):-9223372036854775808<=(n:Int) / 2/\(n:Int) / 2 < 9223372036854775808:=⟨Int.le_trans (by decide) (Int.ediv_nonneg (Int.natCast_nonneg _) (by decide)),Int.lt_of_le_of_lt (Int.ediv_le_self _ (Int.natCast_nonneg _)) (ltZ h (by decide))⟩
theorem np40 {o:Nat} {wish:Int} (h:1<=wish) (h2:wish<=(o:Int)):wish.toNat - 1 < o:=lt_of_lt_of_le (Nat.sub_lt (Int.lt_toNat.mpr h) Nat.one_pos) (Int.toNat_le.mpr h2)
theorem np41 {w:Int} {n:Nat} (h:1<=w) (e:n=w.toNat):0 < n:=by rw [e];exact Int.lt_toNat.mpr h
theorem np42 {w:Int} {n N:Nat} (h:n=min w.toNat N) (hw:1<=w):(n:Int)<=w:=Int.le_trans (Int.ofNat_le.mpr (h ▸ min_le_left _ _)) (Int.le_of_eq (Int.toNat_of_nonneg (Int.le_trans (by decide) hw)))
theorem np43:∀ {i:Nat},i < 2->i=0\/i=1:=by decide
theorem np44 {k l i:Nat} (hl:l<=k) (h:i < k+1) (ne:¬ i=l) (h2:¬ (l < i/\i<=k)):i < k:=lt_of_lt_of_le (lt_of_le_of_ne (le_of_not_lt fun z=>h2 ⟨z,Nat.le_of_lt_succ h⟩) ne) hl
inductive NE where
 | v (i:Nat)
 | k (n:Nat)
 | a (x y:NE)
 | m (n:Nat) (x:NE)
noncomputable def NE.ev (xs:List Nat):NE->Nat
 | .v i=>xs.getD i 0
 | .k n=>n
 | .a x y=>x.ev xs+y.ev xs
 | .m n x=>n * x.ev xs
noncomputable def NE.con:NE->Nat
 | .v _=>0
 | .k n=>n
 | .a x y=>x.con+y.con
 | .m n x=>n * x.con
noncomputable def NE.fac (j:Nat):NE->Nat
 | .v i=>if i=j then 1 else 0
 | .k _=>0
 | .a x y=>x.fac j+y.fac j
 | .m n x=>n * x.fac j
noncomputable def yVi (xs:List Nat) (f:Nat->Nat):Nat->Nat
 | 0=>0
 | n+1=>yVi xs f n+f n * xs.getD n 0
theorem yXp (xs:List Nat) (f g:Nat->Nat):∀ n,yVi xs (fun j=>f j+g j) n=yVi xs f n+yVi xs g n
 | 0=>rfl
 | n+1=>by simp only [yVi];rw [yXp xs f g n,Nat.add_mul];exact Nat.add_add_add_comm _ _ _ _
theorem yXo (xs:List Nat) (c:Nat) (f:Nat->Nat):∀ n,yVi xs (fun j=>c * f j) n=c * yVi xs f n
 | 0=>rfl
 | n+1=>by simp only [yVi];rw [yXo xs c f n,Nat.mul_add,Nat.mul_assoc]
theorem yWb (xs:List Nat):∀ n,yVi xs (fun O=>0) n=0
 | 0=>rfl
 | n+1=>by simp only [yVi];rw [yWb xs n,Nat.zero_mul]
theorem yXn (xs:List Nat) (i:Nat):∀ n,yVi xs (fun j=>if i=j then 1 else 0) n=if i < n then xs.getD i 0 else 0
 | 0=>rfl
 | n+1=>by
  simp only [yVi];rw [yXn xs i n]
  by_cases h:i=n
  ·subst h;rw [if_neg (lt_irrefl _),if_pos rfl,if_pos (lt_succ_self _),Nat.one_mul,zero_add]
  ·rw [if_neg h,Nat.zero_mul,Nat.add_zero]
   by_cases h2:i < n
   ·rw [if_pos h2,if_pos (lt_succ_of_lt h2)]
   ·rw [if_neg h2,if_neg fun q=>h2 (lt_of_le_of_ne (Nat.le_of_lt_succ q) h)]
theorem nsum_le (xs:List Nat) {f g:Nat->Nat}:∀ {n},(∀ j,j < n->f j<=g j)->yVi xs f n<=yVi xs g n
 | 0,_=>le_refl _
 | n+1,h=>Nat.add_le_add (nsum_le xs fun j hj=>h j (lt_succ_of_lt hj)) (Nat.mul_le_mul_right _ (h n (lt_succ_self n)))
theorem NE.ev_eq (xs:List Nat):∀ x:NE,x.ev xs=x.con+yVi xs x.fac xs.length
 | .v i=>by
  show xs.getD i 0=0+yVi xs (fun j=>if i=j then 1 else 0) xs.length
  rw [yXn,zero_add]
  by_cases h:i < xs.length
  ·rw [if_pos h]
  ·rw [if_neg h,List.getD_eq_getElem?_getD,List.getElem?_eq_none (le_of_not_lt h)];rfl
 | .k n=>by
  show n=n+yVi xs (fun O=>0) xs.length
  rw [yWb,Nat.add_zero]
 | .a x y=>by
  show x.ev xs+y.ev xs=(x.con+y.con)+yVi xs (fun j=>x.fac j+y.fac j) xs.length
  rw [yXp,NE.ev_eq xs x,NE.ev_eq xs y];exact Nat.add_add_add_comm _ _ _ _
 | .m n x=>by
  show n * x.ev xs=n * x.con+yVi xs (fun j=>n * x.fac j) xs.length
  rw [yXo,NE.ev_eq xs x,Nat.mul_add]
noncomputable def yAO (xs:List Nat):List (Nat×NE×NE)->Prop
 | []=>True
 | [q]=>q.2.1.ev xs<=q.2.2.ev xs
 | q::r::l=>q.2.1.ev xs<=q.2.2.ev xs/\yAO xs (r::l)
noncomputable def lhsOf:List (Nat×NE×NE)->NE
 | []=>.k 0
 | q::l=>.a (.m q.1 q.2.1) (lhsOf l)
noncomputable def rhsOf:List (Nat×NE×NE)->NE
 | []=>.k 0
 | q::l=>.a (.m q.1 q.2.2) (rhsOf l)
theorem facts_le (xs:List Nat):∀ l,yAO xs l->(lhsOf l).ev xs<=(rhsOf l).ev xs
 | [],_=>le_refl _
 | [q],h=>Nat.add_le_add (Nat.mul_le_mul_left _ h) (le_refl _)
 | q::r::l,h=>Nat.add_le_add (Nat.mul_le_mul_left _ h.1) (facts_le xs (r::l) h.2)
noncomputable def yBN (x y:NE):Nat->Bool
 | 0=>true
 | n+1=>Nat.ble (x.fac n) (y.fac n) && yBN x y n
theorem facOk_le {x y:NE}:∀ {n},yBN x y n=true->∀ j,j < n->x.fac j<=y.fac j
 | n+1,h,j,hj=>by
  have h:=and_eq_true_iff.mp h
  rcases Nat.lt_or_eq_of_le (Nat.le_of_lt_succ hj) with q | q
  ·exact facOk_le h.2 j q
  ·rw [q];exact Nat.le_of_ble_eq_true h.1
noncomputable def nbad (n:Nat) (l:List (Nat×NE×NE)):Bool:=Nat.blt (rhsOf l).con (lhsOf l).con && yBN (rhsOf l) (lhsOf l) n
theorem nf (xs:List Nat) (l:List (Nat×NE×NE)) (c:nbad xs.length l=true) (h:yAO xs l):False:=by
 have c:=and_eq_true_iff.mp c
 have h1:=facts_le xs l h
 rw [NE.ev_eq,NE.ev_eq] at h1
 have h2:=nsum_le xs (facOk_le c.2)
 have h3:(rhsOf l).con < (lhsOf l).con:=Nat.le_of_ble_eq_true c.1
 have h4:yVi xs (fun j=>NE.fac j (rhsOf l)) xs.length<=yVi xs (fun j=>NE.fac j (lhsOf l)) xs.length:=h2
 exact absurd h1 (Nat.not_le.mpr (Nat.add_lt_add_of_lt_of_le h3 h4))
noncomputable def nadd:List NE->List NE
 | x::y::s=>.a y x::s
 | s=>s
noncomputable def nmul (k:Nat):List NE->List NE
 | x::s=>.m k x::s
 | s=>s
noncomputable def nrow:List NE->Nat×NE×NE
 | [r,l]=>(1,l,r)
 | [r,l,.k c]=>(c,l,r)
 | _=>(0,.k 0,.k 0)
noncomputable def nst (d n:Nat) (st:List NE):Nat×List NE:=
 match Nat.blt d 10 with
 | true=>(n,.v d::st)
 | false=>match d with
  | 10=>(n,nadd st)
  | 11=>(n,.k 1::st)
  | 12=>(Nat.div n 16,.k (Nat.mod n 16)::st)
  | 13=>(Nat.div n 268435456,.k (Nat.mod n 268435456)::st)
  | _=>(Nat.div n 16,nmul (Nat.mod n 16) st)
noncomputable def nd:Nat->Nat->List NE->List (Nat×NE×NE)
 | 0,_,_=>[]
 | f+1,n,st=>match Nat.beq n 0 with
  | true=>[]
  | false=>match Nat.beq (Nat.mod n 16) 15 with
   | true=>nrow st::nd f (Nat.div n 16) []
   | false=>nd f (nst (Nat.mod n 16) (Nat.div n 16) st).1 (nst (Nat.mod n 16) (Nat.div n 16) st).2
noncomputable def fr (xs:List Nat):Nat->List (Nat×NE×NE)->Prop
 | _,[]=>True
 | 0,q::_=>q.2.1.ev xs<=q.2.2.ev xs
 | i+1,_::l=>fr xs i l
noncomputable def fc (xs:List Nat) (n i:Nat):Prop:=fr xs i (nd 99 n [])
noncomputable def nk (k:Nat) (xs:List Nat) (n:Nat):Bool:=nbad xs.length (nd 99 n []) && Nat.ble (nd 99 n []).length k
theorem facts_fr (xs:List Nat):∀ l,(∀ i,fr xs i l)->yAO xs l
 | [],_=>trivial
 | [_],h=>h 0
 | _::r::l,h=>⟨h 0,facts_fr xs (r::l) fun i=>h (i+1)⟩
theorem yAY (xs:List Nat):∀ l i,l.length<=i->fr xs i l
 | [],0,_=>trivial
 | [],_+1,_=>trivial
 | _::l,i+1,h=>yAY xs l i (Nat.le_of_succ_le_succ h)
theorem nqa (k:Nat) {xs:List Nat} {n:Nat} (c:nk k xs n=true) (h:∀ i,i < k->fc xs n i):False:=
 nf xs _ (and_eq_true_iff.mp c).1 (facts_fr xs _ fun i=>(lt_or_ge i k).elim (h i) fun g=>yAY xs _ i (le_trans (Nat.le_of_ble_eq_true (and_eq_true_iff.mp c).2) g))
theorem f0 {xs:List Nat} {n:Nat}:∀ i,i < 0->fc xs n i:=fun _ h=>absurd h (Nat.not_lt_zero _)
theorem fs {xs:List Nat} {n k:Nat} (h:∀ i,i < k->fc xs n i) (g:fc xs n k):∀ i,i < k+1->fc xs n i:=fun i hi=>(Nat.lt_or_eq_of_le (Nat.le_of_lt_succ hi)).elim (h i) fun e=>by rw [e];exact g
theorem nq1 (xs:List Nat) (n:Nat) (h0:fc xs n 0) (c:nk 1 xs n=true:=by rfl):False:=nqa 1 c (fs f0 h0)
theorem jl1 {x y:Nat} (xs:List Nat) (n:Nat)  (h0:y<=x->fc xs n 0:=by exact fun z=>z) (c:nk 1 xs n=true:=by rfl):x < y:=lt_of_not_le fun z=>nq1 xs n (h0 z)  c
theorem jg1 {x y:Nat} (xs:List Nat) (n:Nat)  (h0:y < x->fc xs n 0:=by exact fun z=>z) (c:nk 1 xs n=true:=by rfl):x<=y:=le_of_not_lt fun z=>nq1 xs n (h0 z)  c
theorem nq2 (xs:List Nat) (n:Nat) (h0:fc xs n 0) (h1:fc xs n 1) (c:nk 2 xs n=true:=by rfl):False:=nqa 2 c (fs (fs f0 h0) h1)
theorem jl2 {x y:Nat} (xs:List Nat) (n:Nat) (h1:fc xs n 1) (h0:y<=x->fc xs n 0:=by exact fun z=>z) (c:nk 2 xs n=true:=by rfl):x < y:=lt_of_not_le fun z=>nq2 xs n (h0 z) h1 c
theorem jg2 {x y:Nat} (xs:List Nat) (n:Nat) (h1:fc xs n 1) (h0:y < x->fc xs n 0:=by exact fun z=>z) (c:nk 2 xs n=true:=by rfl):x<=y:=le_of_not_lt fun z=>nq2 xs n (h0 z) h1 c
theorem nq3 (xs:List Nat) (n:Nat) (h0:fc xs n 0) (h1:fc xs n 1) (h2:fc xs n 2) (c:nk 3 xs n=true:=by rfl):False:=nqa 3 c (fs (fs (fs f0 h0) h1) h2)
theorem jl3 {x y:Nat} (xs:List Nat) (n:Nat) (h1:fc xs n 1) (h2:fc xs n 2) (h0:y<=x->fc xs n 0:=by exact fun z=>z) (c:nk 3 xs n=true:=by rfl):x < y:=lt_of_not_le fun z=>nq3 xs n (h0 z) h1 h2 c
theorem jg3 {x y:Nat} (xs:List Nat) (n:Nat) (h1:fc xs n 1) (h2:fc xs n 2) (h0:y < x->fc xs n 0:=by exact fun z=>z) (c:nk 3 xs n=true:=by rfl):x<=y:=le_of_not_lt fun z=>nq3 xs n (h0 z) h1 h2 c
theorem nq4 (xs:List Nat) (n:Nat) (h0:fc xs n 0) (h1:fc xs n 1) (h2:fc xs n 2) (h3:fc xs n 3) (c:nk 4 xs n=true:=by rfl):False:=nqa 4 c (fs (fs (fs (fs f0 h0) h1) h2) h3)
theorem jl4 {x y:Nat} (xs:List Nat) (n:Nat) (h1:fc xs n 1) (h2:fc xs n 2) (h3:fc xs n 3) (h0:y<=x->fc xs n 0:=by exact fun z=>z) (c:nk 4 xs n=true:=by rfl):x < y:=lt_of_not_le fun z=>nq4 xs n (h0 z) h1 h2 h3 c
theorem jg4 {x y:Nat} (xs:List Nat) (n:Nat) (h1:fc xs n 1) (h2:fc xs n 2) (h3:fc xs n 3) (h0:y < x->fc xs n 0:=by exact fun z=>z) (c:nk 4 xs n=true:=by rfl):x<=y:=le_of_not_lt fun z=>nq4 xs n (h0 z) h1 h2 h3 c
theorem nq5 (xs:List Nat) (n:Nat) (h0:fc xs n 0) (h1:fc xs n 1) (h2:fc xs n 2) (h3:fc xs n 3) (h4:fc xs n 4) (c:nk 5 xs n=true:=by rfl):False:=nqa 5 c (fs (fs (fs (fs (fs f0 h0) h1) h2) h3) h4)
theorem jl5 {x y:Nat} (xs:List Nat) (n:Nat) (h1:fc xs n 1) (h2:fc xs n 2) (h3:fc xs n 3) (h4:fc xs n 4) (h0:y<=x->fc xs n 0:=by exact fun z=>z) (c:nk 5 xs n=true:=by rfl):x < y:=lt_of_not_le fun z=>nq5 xs n (h0 z) h1 h2 h3 h4 c
theorem jg5 {x y:Nat} (xs:List Nat) (n:Nat) (h1:fc xs n 1) (h2:fc xs n 2) (h3:fc xs n 3) (h4:fc xs n 4) (h0:y < x->fc xs n 0:=by exact fun z=>z) (c:nk 5 xs n=true:=by rfl):x<=y:=le_of_not_lt fun z=>nq5 xs n (h0 z) h1 h2 h3 h4 c
theorem nq6 (xs:List Nat) (n:Nat) (h0:fc xs n 0) (h1:fc xs n 1) (h2:fc xs n 2) (h3:fc xs n 3) (h4:fc xs n 4) (h5:fc xs n 5) (c:nk 6 xs n=true:=by rfl):False:=nqa 6 c (fs (fs (fs (fs (fs (fs f0 h0) h1) h2) h3) h4) h5)
theorem jl6 {x y:Nat} (xs:List Nat) (n:Nat) (h1:fc xs n 1) (h2:fc xs n 2) (h3:fc xs n 3) (h4:fc xs n 4) (h5:fc xs n 5) (h0:y<=x->fc xs n 0:=by exact fun z=>z) (c:nk 6 xs n=true:=by rfl):x < y:=lt_of_not_le fun z=>nq6 xs n (h0 z) h1 h2 h3 h4 h5 c
theorem jg6 {x y:Nat} (xs:List Nat) (n:Nat) (h1:fc xs n 1) (h2:fc xs n 2) (h3:fc xs n 3) (h4:fc xs n 4) (h5:fc xs n 5) (h0:y < x->fc xs n 0:=by exact fun z=>z) (c:nk 6 xs n=true:=by rfl):x<=y:=le_of_not_lt fun z=>nq6 xs n (h0 z) h1 h2 h3 h4 h5 c
theorem nq7 (xs:List Nat) (n:Nat) (h0:fc xs n 0) (h1:fc xs n 1) (h2:fc xs n 2) (h3:fc xs n 3) (h4:fc xs n 4) (h5:fc xs n 5) (h6:fc xs n 6) (c:nk 7 xs n=true:=by rfl):False:=nqa 7 c (fs (fs (fs (fs (fs (fs (fs f0 h0) h1) h2) h3) h4) h5) h6)
theorem jl7 {x y:Nat} (xs:List Nat) (n:Nat) (h1:fc xs n 1) (h2:fc xs n 2) (h3:fc xs n 3) (h4:fc xs n 4) (h5:fc xs n 5) (h6:fc xs n 6) (h0:y<=x->fc xs n 0:=by exact fun z=>z) (c:nk 7 xs n=true:=by rfl):x < y:=lt_of_not_le fun z=>nq7 xs n (h0 z) h1 h2 h3 h4 h5 h6 c
theorem nq8 (xs:List Nat) (n:Nat) (h0:fc xs n 0) (h1:fc xs n 1) (h2:fc xs n 2) (h3:fc xs n 3) (h4:fc xs n 4) (h5:fc xs n 5) (h6:fc xs n 6) (h7:fc xs n 7) (c:nk 8 xs n=true:=by rfl):False:=nqa 8 c (fs (fs (fs (fs (fs (fs (fs (fs f0 h0) h1) h2) h3) h4) h5) h6) h7)
theorem nl {x y:Nat} (h:¬ y<=x):x < y:=lt_of_not_le h
theorem ng {x y:Nat} (h:¬ y < x):x<=y:=le_of_not_lt h
theorem na {x y:Nat}:x<=x - y+y:=Nat.le_add_of_sub_le (le_refl _)
theorem nc {x y:Nat} (h:y<=x):x - y+y<=x:=le_of_eq (Nat.sub_add_cancel h)
theorem nw2 {x:Nat}:x < 2 * (x / 2)+2:=lt_mul_div_succ _ (by decide)

end
end Mine.Internal
namespace Mine.Internal
/-- the statements of the text that the head's look keeps -/
noncomputable def pick : List Bool → List Stmt → List Stmt
  | true :: bs, st :: r => st :: pick bs r
  | false :: bs, _ :: r => pick bs r
  | _, _ => []
noncomputable def view : Program := { PySem.Challenge.rw_dp0046_01.prog with main := { PySem.Challenge.rw_dp0046_01.prog.main with body := pick [false, true, true, true, true, true, true, true, true, false, false, false, true, true, true, true, true, true, true, true] PySem.Challenge.rw_dp0046_01.prog.main.body } }
noncomputable def lkO (p : Program) : {q : Bool × Bool × Bool // q.1 = true → q.2.1 = true → q.2.2 = true → looksOpen p = true} := ⟨(_, _, _), fun a b c => look_both (look_both a b) c⟩
theorem lkA : (lkO PySem.Challenge.rw_dp0046_01.row.prog).1.1 = true := by kernel_rfl
theorem lkB : (lkO PySem.Challenge.rw_dp0046_01.row.prog).1.2.1 = true := by kernel_rfl
theorem lkC : (lkO PySem.Challenge.rw_dp0046_01.row.prog).1.2.2 = true := by kernel_rfl
theorem lkD : PySem.Challenge.rw_dp0046_01.row.wellSaid = true := by unfold OpenRow.wellSaid OpenRow.partSaid; rw [(lkO _).2 lkA lkB lkC]; kernel_rfl
theorem hws : PySem.Challenge.rw_dp0046_01.wellSaid = true := by unfold OpenLaw.wellSaid; rw [lkD]; kernel_rfl
noncomputable def hdx (H : Hook) : {q : Prop × Prop // q.1 → PySem.Challenge.rw_dp0046_01.row.toRowW.promised → q.2 → PySem.Challenge.rw_dp0046_01.row.Holds} := ⟨(_, _), fun hl hw hc => holds_open (q := view) (loose := [PySem.Str.ofString "nsmallest", PySem.Str.ofString "nlargest"]) (Xt := fun s => xlAt view [] s && recOk [] s) (XP := XL view []) (Yf := Hook.obs H) (Ya := Hook.val H) (YP := Hook.says H) (N := 1132) hl (Hook.of H) (Hook.keeps H) (fun s e => xl_of s (Bool.and_eq_true_iff.mp e).1) XL.keeps (by rfl) (by rfl) (by rfl) (fun s e => recFacts_of (Bool.and_eq_true_iff.mp e).2) (by rfl) (row_said hws) (by decide +kernel) ⟨rfl, rfl, rfl, rfl, rfl, by decide +kernel⟩ hw hc⟩
end Mine.Internal
section
local macro_rules | `(tactic| o_head $H) => `(tactic| (refine (Mine.Internal.hdx $H).2 ?hl ?hw ?hc; (case hl => (intro w; kernel_rfl))))
local macro_rules | `(tactic| o_law) => `(tactic| (refine holds_law Mine.Internal.hws fun said => ?_))
open_top hd01 for PySem.Challenge.rw_dp0046_01
end
example : (fun (_ : OpenLaw) (_ : Params → Frag) => True) PySem.Challenge.rw_dp0046_01 hd01.heap_1 := by k_fill; trivial
example : True := by w_top off; trivial
namespace Mine.Internal
noncomputable section
def qA:=@wpAny_bind
def qB:=@List.mem_append_right
def qC:=@List.mem_singleton
def qD:=@Nat.le_of_eq
def qF:=@List.mem_append
def qG:=@List.mem_cons
def qH:=@Nat.le_antisymm
def qI:=@wpAny_pure
def qJ:=@kasC_pure
def qK:=@kasC_bind
def qL:=@wpAny_mono
def qM:=@if_neg
def qN:=@if_pos
def qO:=@Nat.le_of_not_lt
def qP:=@Nat.lt_of_lt_of_le
def qQ:=@Nat.lt_of_le_of_ne
def qR:=@List.getD_eq_getElem?_getD
def qS:=@Heap.get?_push_of_some
def qT:=@List.getElem?_eq_getElem
def qU:=@Heap.lt_size
def qV:=@Heap.get?_none_of_le
def qW:=@PySem.IsL.isList
def qX:=@Heap.get?_push_size
def qY:=@List.mem_append_left
def qZ:=@Nat.le_trans
def vA:=@Nat.lt_of_not_le
def vB:=@Nat.ne_of_lt
def vC:=@Nat.le_refl
def vD:=@Nat.sub_le
def vE:=@Nat.mul_div_le
def vF:=@Ne.symm
def vG:=@beq_iff_eq
def vH:=@List.length_set
def vI:=@wpAny_rule
def vJ:=@hideAll_get
def vK:=@hideAll_none
def vL:=@of_hideAll
def vM:=@Int.natCast_nonneg
def vO:=@Around.frames_deeper
def vP:=@Nat.pos_of_ne_zero
def vQ:=@List.take_sublist
def vR:=@Nat.lt_of_le_of_lt
def vS:=@List.append_assoc
def vT:=@wpAny_field
def vU:=@wpAny_call_entry
def vV:=@Nat.lt_trans
def vW:=@isSubtype_of_subB
def vX:=@Nat.not_lt
def vY:=@List.pairwise_append
def vZ:=@Nat.zero_le
def wB:=@List.mem_map
def wC:=@Heap.SameBut.update
def wD:=@Option.some.inj
def wE:=@congrArg
def wF:=@Nat.add_sub_cancel_left
def wG:=@List.not_mem_nil
def wH:=@Bool.false_eq_true
def wI:=@List.take_append_drop
def wJ:=@P.str_of_exc_one
def wK:=@List.getElem_mem
def wL:=@Nat.sub_add_cancel
def wM:=@Nat.le_of_lt
def wN:=@wpAny_of_eq
abbrev VS:=(_:Value)->Shared->Prop
theorem fx_ex {α:Type} (a:α):∃ b,b=a:=⟨a,rfl⟩
def fx {α:Type} (a:α):α:=Classical.choose (fx_ex a)
theorem yAB {α:Type} (a:α):fx a=a:=Classical.choose_spec (fx_ex a)
def gR:{R:World->Shared->(Str->Option Value)->(Str->Option Value)->Prop // (∀ a b c d,R a b c d)->PySem.Challenge.rw_dp0046_01.Holds}:=⟨_,fun h=>hd01 (by intro w sa0 sa1 mg mb;revert sa1;exact h w sa0 mg mb)⟩
def gz:=ep (U4 gR.1) ⟨(aWorld 0,(start default).1,fun O=>none,fun O=>none)⟩
def w:=gz.1
def sA:=gz.2.1
def mg:=gz.2.2.1
def mb:=gz.2.2.2
def lw:List Str:=looseW view [Str.ofString "nsmallest",Str.ofString "nlargest"]
def prog:Program:=fx PySem.Challenge.rw_dp0046_01.row.prog
def p:Program:=fx topProg
def loose:List Str:=fx (lw++(recsOf view).map (·.name)++(litsOf view).map (·.1)++(clssOf view lw).map (·.name))
def yQv:ExcName->Option Value:=fx (ExcName.means sA.heap)
theorem yBj {α:Type} {A:Around} {m:Sem α} {Q:α->Shared->Prop} {E:VS} {s:Shared} (h:wpAny (model prog w) A m Q E s):wpAny (model PySem.Challenge.rw_dp0046_01.row.prog w) A m Q E s:=yAB PySem.Challenge.rw_dp0046_01.row.prog ▸ h
theorem to_top {b:Heap} (T:Top topProg (lw++(recsOf view).map (·.name)++(litsOf view).map (·.1)++(clssOf view lw).map (·.name)) (ExcName.means sA.heap) mg mb b):Top p loose yQv mg mb b:=by
 unfold p loose yQv;rw [yAB,yAB,yAB];exact T
structure It where
 v:Value
 k:List Int
 i:Int
 e:Value
noncomputable def it0:It:=⟨.none,[],0,.none⟩
section
variable {A:Around} {E:VS} {s:Shared} {h₀:Heap} {L D:Addr} {m:Str->Option Value} {news:List (Addr×Obj)} {n:Nat} {xs:List It}
theorem yAz {k:Nat} (h:k < xs.length):(xs.map It.v)[k]?=some (xs.getD k it0).v:=by
 simp [h]
theorem fit63 {k:Int} {n:Nat} (h:k < n) (hl:n<=1000):k < 2 ^ 63:=Int.lt_trans (Int.lt_of_lt_of_le h (Int.ofNat_le.mpr hl)) (by decide)
theorem sub_at {value slice:PySem.Expr} {k:Int} {u:Tok} {Q:VS} (N:News h₀ L s.heap news) (hm:(D,listOf (xs.map It.v).toArray n)∈news) (h0:0<=k) (h1:k < xs.length) (hl:xs.length<=1000)
  (h:Q (xs.getD k.toNat it0).v s)
  (hs:subscripted slice false (.ref D) (.int k u)=operate [.ref D,.int k u] (getItem (.ref D) (.int k u)):=by with_unfolding_all rfl):
  wpAny (model prog w) A (subscriptTail value slice (.ref D) (.int k u)) Q E s:=
 tail_any (qW (n:=n) (N _ hm).1).typeIs slot_list_getitem.lookup
  (wpAny_getItem_list (qW (n:=n) (N _ hm).1) h0 (fit63 h1 hl) (by simpa using yAz (xs:=xs) (k:=k.toNat) (np19 h0 h1)) h) hs
noncomputable def upd (D:Addr) (o:Obj) (news:List (Addr×Obj)):List (Addr×Obj):=news.map fun p=>if p.1=D then (D,o) else p
theorem news_upd' {h h':Heap} {o o':Obj} (N:News h₀ L h news) (hm:(D,o)∈news) (hs:Heap.SameBut D h h') (ho:h'.get? D=some o'):News h₀ L h' (upd D o' news):=by
 intro p hp
 obtain ⟨q,hq,rfl⟩:=wB.mp hp
 by_cases e:q.1=D
 ·simp only [e,if_true]
  exact ⟨ho,(N _ hm).2⟩
 ·simp only [e,if_false]
  exact ⟨(hs.2 _ e).trans (N _ hq).1,(N _ hq).2⟩
theorem fr_change {h h':Heap} {o:Obj} (F:Fr h₀ L h m) (N:News h₀ L h news) (hm:(D,o)∈news) (hs:Heap.SameBut D h h'):Fr h₀ L h' m:=
 F.change hs (N _ hm).2.1 (N _ hm).2.2
theorem set_at {k:Int} {u:Tok} {v:It} {Q:Unit->Shared->Prop} (F:Fr h₀ L s.heap m) (N:News h₀ L s.heap news) (hm:(D,listOf (xs.map It.v).toArray n)∈news) (h0:0<=k) (h1:k < xs.length) (hl:xs.length<=1000)
  (h:∀ h',Fr h₀ L h' m->News h₀ L h' (upd D (listOf ((xs.set k.toNat v).map It.v).toArray n) news)->Q () {s with heap:=h'}):
  wpAny (model prog w) A (setItem (.ref D) (.int k u) v.v) Q E s:=by
 refine ki_setAt (N _ hm).1 h0 (fit63 h1 hl) (by simpa using h1) (h _ (fr_change F N hm (wC ..)) (news_upd' N hm (wC ..) ?_))
 have q:=PySem.IsL.update (N _ hm).1 (fun a:Array Value=>a.setIfInBounds k.toNat v.v)
 have e:(xs.map It.v).toArray.setIfInBounds k.toNat v.v=((xs.set k.toNat v).map It.v).toArray:=by
  apply Array.toList_inj.mp;simp [List.map_set]
 simp only [e] at q
 rw [q];simp
end
def yDK (I:Nat->Shared->Prop) (n:Nat) (s:Shared):Prop:=∃ m,m < n/\I m s
theorem yCP {A:Around} {E:VS} {s:Shared} {test:PySem.Expr} {body orelse:List Stmt} {env:Env} {pos:Pos} {Q:Flow->Shared->Prop} (I:Nat->Shared->Prop) (n:Nat) (h:I n s)
  (turn:∀ n s,I n s->wpAny (model prog w) A (isTrue test env (eval test env)) (fun b sa2=>
    if b then wpAny (model prog w) A (execs body env) (fun f sa3=>match f with
      | .next | .cont=>yDK I n sa3
      | .brk=>Q .next sa3
      | .ret v=>Q (.ret v) sa3) (notedBy (model prog w) A env (cameBackBy (model prog w) A env E)) sa2
    else wpAny (model prog w) A (execs orelse env) Q (notedBy (model prog w) A env (cameBackBy (model prog w) A env E)) sa2)
    (notedBy (model prog w) A env (cameBackBy (model prog w) A env E)) s):
  wpAny (model prog w) A (exec (.While test body orelse pos) env) Q E s:=
 wpAny_While (codeAny_whileLoop I (fun n s hI=>turn n s hI) n h)
theorem yBp {A:Around} {E:VS} {s:Shared} {c:Nat} {t u:Tok} {Q:VS} (hc:0 < c) (h:Q (.int (((c - 1) / 2:Nat):Int) s.toks) { s with toks:=s.toks+1 }):
  wpAny (model prog w) A (binaryOp .RShift (.int ((c:Int) - 1) t) (.int 1 u)) Q E s:=by
 refine rshift_int (by decide) ?_
 have e:((c:Int) - 1).fdiv (2 ^ Int.toNat 1)=(((c - 1) / 2:Nat):Int):=by
  have:(2:Int) ^ Int.toNat 1=2:=rfl
  rw [this,Int.fdiv_eq_ediv_of_nonneg _ (by decide)]
  exact np26 hc
 rw [e];exact h
theorem getD_mem {xs:List It} {k:Nat} (h:k < xs.length):xs.getD k it0∈xs:=by
 rw [qR,qT h];exact wK h
section
variable {h₀ h h' b:Heap} {L D:Addr} {m:Str->Option Value} {news:List (Addr×Obj)}
theorem stays_hide (st:b.StaysIn h) (hD:b.get? D=none):b.StaysIn (hideAll h [D]):=fun x o e=>
 vJ _ (st x o e) fun q=>by
  rw [qC] at q;rw [q,hD] at e;cases e
theorem fr_back (F:Fr h₀ L h m) (hL:L≠D) (hD:h₀.get? D=none) (st:(hideAll h [D]).StaysIn h'):Fr h₀ L h' m:=by
 obtain ⟨oL,es,ep,hl,r⟩:=F.ns
 refine ⟨⟨oL,es,ep,st _ _ (vJ _ hl fun q=>hL (qC.mp q)),r⟩,fun x o e=>st _ _ (stays_hide F.keep hD x o e),F.above⟩
theorem yYJ {o o':Obj} (N:News h₀ L h news) (hm:(D,o)∈news) (st:(hideAll h [D]).StaysIn h') (ho:h'.get? D=some o'):News h₀ L h' (upd D o' news):=by
 intro p hp
 obtain ⟨q,hq,rfl⟩:=wB.mp hp
 by_cases e:q.1=D
 ·simp only [e,if_true]
  exact ⟨ho,(N _ hm).2⟩
 ·simp only [e,if_false]
  exact ⟨st _ _ (vJ _ (N _ hq).1 fun z=>e (qC.mp z)),(N _ hq).2⟩
end
theorem len_at {A:Around} {E:VS} {s:Shared} {h₀:Heap} {L D:Addr} {news:List (Addr×Obj)} {n:Nat} {xs:List It} {Q:VS}
  (N:News h₀ L s.heap news) (hm:(D,listOf (xs.map It.v).toArray n)∈news) (hf:xs.length<=1000000)
  (h:Q (.int (xs.length:Int) (s.toks+1)) { s with toks:=s.toks+1+1 }):wpAny (model prog w) A (call (.builtin "len") [.ref D]) Q E s:=by
 refine len_list (qW (n:=n) (N _ hm).1) ?_ ?_
 ·simp only [size_toArray,length_map];lia
 ·simpa using h
section
variable {A:Around} {E:VS} {s:Shared}
theorem range_fields {r:Addr} {a b c:Int} {t u v:Tok} {Q:Int×Int×Int->Shared->Prop} (hr:IsRange s.heap r a b c t u v) (h:Q (a,b,c) s):wpAny (model prog w) A (Builtin.Range.rangeFields (.ref r)) Q E s:=by
 unfold Builtin.Range.rangeFields
 refine qA (vT hr rfl (x:=.int a t) rfl ?_)
 refine qA (wN (a:=some a) rfl ?_)
 refine qA (vT hr rfl (x:=.int b u) rfl ?_)
 refine qA (wN (a:=some b) rfl ?_)
 refine qA (vT hr rfl (x:=.int c v) rfl ?_)
 refine qA (wN (a:=some c) rfl ?_)
 exact qI h
noncomputable def revRange (a b c:Int):Obj:=
 { cls:=.type "range_iterator",data:=.fields #[rawInt (a+(Builtin.Range.rangeSize a b c - 1) * c),rawInt (Builtin.Range.rangeSize a b c),rawInt (-c)] }
noncomputable def yJl (a b c:Int):Bool:=Builtin.Range.rangeFitsLong a && Builtin.Range.rangeFitsLong b && Builtin.Range.rangeFitsLong c && Builtin.Range.rangeFitsLong (-c) && Builtin.Range.rangeFitsLong (a - c) && Builtin.Range.rangeFitsLong (Builtin.Range.rangeSize a b c)
theorem yJg {r:Addr} {a b c:Int} {t u v:Tok} {Q:VS} (hr:IsRange s.heap r a b c t u v) (hsm:yJl a b c=true)
  (h:Q (.ref s.heap.objs.size) {s with heap:=s.heap.push (revRange a b c)}):wpAny (model prog w) A (call (.builtin "range.__reversed__") [.ref r]) Q E s:=by
 have hT:s.TypeIs (.ref r) "range":=⟨_,hr,rfl⟩
 refine vU F.slot_range_reversed hT F.entry_range_reversed ?_ (F.args_range_reversed_1 _)
 unfold Builtin.«range.__reversed__»
 refine qA (wN (a:=Value.ref r) rfl ?_)
 refine qA (range_fields hr ?_)
 dsimp only
 unfold yJl at hsm
 simp only [hsm,Bool.not_true,wH,if_false,if_true]
 exact qA (wpAny_newObj_type (qI ⟨_,rfl,h⟩))
theorem code_reversed_range {r:Addr} {a b c:Int} {t u v:Tok} {Q₁:VS} (hr:IsRange s.heap r a b c t u v) (hsm:yJl a b c=true)
  (h:Q₁ (.ref s.heap.objs.size) {s with heap:=s.heap.push (revRange a b c)}):
  codeAny (model prog w) A (.call (.builtin "reversed.__new__") ⟨[.type "reversed",.ref r],[]⟩) (wants Q₁ E) s:=by
 have hT:s.TypeIs (.ref r) "range":=⟨_,hr,rfl⟩
 refine codeAny_of_tree ?_
 show wpAny _ A.in1 (do checkBuiltinCall "reversed.__new__" ⟨[.type "reversed",.ref r],[]⟩;again (.builtin "reversed.__new__" ⟨[.type "reversed",.ref r],[]⟩)) _ _ s
 refine qA (wN (F.newCall_reversed_1 _) (qI ⟨plainId_quiet F.plain_reversed_new _,codeAny_builtin F.entry_reversed_new ?_⟩))
 rw [Around.under_plainId F.plain_reversed_new _]
 unfold Builtin.«reversed.__new__»
 refine qA (wN (newClass_reversed _) ?_)
 try dsimp only
 refine qA (wN (a:=()) (by first | rfl | kernel_rfl) ?_)
 refine qA (wN (a:=()) (by first | rfl | kernel_rfl) ?_)
 try dsimp only
 refine qA (wpAny_specialOf hT F.slot_range_reversed.lookup ?_)
 try dsimp only
 refine qA (wN (F.slot_range_reversed.bind _) ?_)
 try dsimp only
 first
 | rw [qM (show ¬ ((Value.builtin "range.__reversed__" == Value.none)=true) from Bool.false_ne_true)]
 | (show wpAny _ _ (if (Value.builtin "range.__reversed__" == Value.none)=true then _ else _) _ _ _;rw [qM (show ¬ ((Value.builtin "range.__reversed__" == Value.none)=true) from Bool.false_ne_true)])
 refine qA (vI ?_)
 refine qA (m:=runValue (.call (.builtin "range.__reversed__") ⟨[.ref r],[]⟩)) (show wpAny _ _ (call (.builtin "range.__reversed__") [.ref r]) _ _ _ from yJg hr hsm ?_)
 first
 | exact qI h
 | exact qA (qI (qI h))
theorem yJV:isSubtype (.type "range_iterator") (.type "reversed")=pure false:=by rw [isSubtype_type];kernel_rfl
theorem yJf {r:Addr} {a b c:Int} {t u v:Tok} {Q:VS} (hr:IsRange s.heap r a b c t u v) (hsm:yJl a b c=true)
  (h:Q (.ref s.heap.objs.size) {s with heap:=s.heap.push (revRange a b c)}):wpAny (model prog w) A (call (.type "reversed") [.ref r]) Q E s:=by
 refine callType_other (U:="range_iterator") (Q₁:=fun obj sa1=>obj=.ref s.heap.objs.size/\sa1={s with heap:=s.heap.push (revRange a b c)}) (by decide +kernel) F.create_reversed ⟨_,_,F.mro_reversed⟩ F.made_reversed yJV (F.typeCall_reversed_1 _) (code_reversed_range hr hsm ⟨rfl,rfl⟩) ?_
 rintro obj sa1 ⟨rfl,rfl⟩
 exact ⟨⟨_,qX _ rfl,rfl⟩,h⟩
theorem yCQ {target:PySem.Expr} {it:Value} {body orelse:List Stmt} {env:Env} {Q:Flow->Shared->Prop} (I:Nat->Shared->Prop) (n:Nat) (h:I n s)
  (turn:∀ n s,I n s->wpAny (model prog w) A (pyNext it) (fun r sa1=>match r with
   | none=>wpAny (model prog w) A (execs orelse env) Q (notedBy (model prog w) A env (cameBackBy (model prog w) A env E)) sa1
   | some v=>wpAny (model prog w) A (assign target env v) (fun _ sa2=>wpAny (model prog w) A (execs body env) (fun f sa3=>match f with
     | .next | .cont=>yDK I n sa3
     | .brk=>Q .next sa3
     | .ret v=>Q (.ret v) sa3) (notedBy (model prog w) A env (cameBackBy (model prog w) A env E)) sa2) (notedBy (model prog w) A env (cameBackBy (model prog w) A env E)) sa1) (notedBy (model prog w) A env (cameBackBy (model prog w) A env E)) s)
  (ht:∀ v,letOwnedTupleGo target it v=pure ():=by intro _;rfl):
  codeAny (model prog w) A (.forLoop target it body orelse env) (fun r s'=>match r with | .ok f=>Q f s' | .error e=>cameBackBy (model prog w) A env E e s') s:=
 codeAny_forLoop I (fun n s hI=>turn n s hI) n h ht
end
section
variable {h₀ h h':Heap} {L D:Addr} {m:Str->Option Value} {news:List (Addr×Obj)}
theorem fr_keeps (F:Fr h₀ L h m) (k:h.StaysIn h'):Fr h₀ L h' m:=
 ⟨F.ns.keeps k,fun x o e=>k _ _ (F.keep x o e),F.above⟩
theorem news_keeps (N:News h₀ L h news) (k:h.StaysIn h'):News h₀ L h' news:=fun p hp=>⟨k _ _ (N p hp).1,(N p hp).2⟩
theorem fr_ext (F:Fr h₀ L h m) (hL:L≠D) (hD:h₀.get? D=none) (k:Heap.ExtBut D h h'):Fr h₀ L h' m:=by
 obtain ⟨oL,es,ep,hl,r⟩:=F.ns
 exact ⟨⟨oL,es,ep,k _ _ hL hl,r⟩,fun x o e=>k _ _ (fun q=>by rw [q,hD] at e;cases e) (F.keep x o e),F.above⟩
theorem yAn (N:News h₀ L h news) (k:Heap.ExtBut D h h') (hn:∀ p∈news,p.1≠D):News h₀ L h' news:=fun p hp=>⟨k _ _ (hn p hp) (N p hp).1,(N p hp).2⟩
theorem yYI (N:News h₀ L h news) (k:Heap.SameBut D h h') (hn:∀ p∈news,p.1≠D):News h₀ L h' news:=yAn N k.extBut hn
end
section
variable {A:Around} {E:VS} {s:Shared}
def yZL (prog:Program) (w:World) (A:Around) (op:CmpOp) (fin:Bool) (Q E:VS):List (Value×Value)->Shared->Prop
 | [],s=>Q (.bool fin) s
 | (p,q)::r,s=>wpAny (model prog w) A (eqBool p q) (fun e s'=>if e=true then yZL prog w A op fin Q E r s' else wpAny (model prog w) A (richCompare op p q) (fun v s''=>v≠.notImplemented/\Q v s'') E s') E s
theorem yVz (x y:Addr):Builtin.«tuple.__lt__» ⟨[.ref x,.ref y],[]⟩=(do
  if !(<- isInstance (.ref y) (.type "tuple")) then return <- ret .notImplemented
  let xs <- Builtin.Tuple.tupleItemsOf (.ref x)
  let ys <- Builtin.Tuple.tupleItemsOf (.ref y)
  for (x,y) in xs.toList.zip ys.toList do
   if !(<- eqBool x y) then
    rule "tuple.compare.by-the-first-pair-that-differs"
    return <- ret (<- richCompare .Lt x y)
  ret (Builtin.Tuple.tupleCompareSizes .Lt xs.size ys.size)):=rfl
theorem tup_loop {fin:Bool} {Q:VS} {R:Option PySem.Fin×Unit->Shared->Prop} {body:(Value×Value)->Option PySem.Fin×Unit->Sem (ForInStep (Option PySem.Fin×Unit))}
  (hb:∀ p q (s:Shared) (R':ForInStep (Option PySem.Fin×Unit)->Shared->Prop),
   wpAny (model prog w) A (eqBool p q) (fun e s'=>if e=true then R' (.yield (none,())) s' else wpAny (model prog w) A (richCompare .Lt p q) (fun v s''=>R' (.done (some (.done (.ret v)),())) s'') E s') E s->
   wpAny (model prog w) A (body (p,q) (none,())) R' E s)
  (h1:∀ s,Q (.bool fin) s->R (none,()) s) (h2:∀ v s,v≠.notImplemented/\Q v s->R (some (.done (.ret v)),()) s):
  ∀(l:List (Value×Value)) (s:Shared),yZL prog w A .Lt fin Q E l s->wpAny (model prog w) A (forIn l (none,()) body) R E s
 | [],s,h=>by rw [forIn_nil];exact qI (h1 s h)
 | (p,q)::r,s,h=>by
  rw [forIn_cons]
  refine qA (hb p q s _ (qL h (fun e s' he=>?_) fun _ _ x=>x))
  cases e with
  | true=>
   simp only [if_true] at he ⊢
   exact tup_loop hb h1 h2 r s' he
  | false=>
   simp only [wH,if_false] at he ⊢
   exact qL he (fun v s'' hv=>qI (h2 v s'' hv)) fun _ _ x=>x
theorem yCy {x y:Addr} {xs ys:Array Value} {n k:Nat} {Q:VS} (hu:A.units < 9000) (hx:s.heap.get? x=some { cls:=.type "tuple",data:=.seq xs n }) (hy:s.heap.get? y=some { cls:=.type "tuple",data:=.seq ys k })
  (h:yZL prog w A.in1 .Lt (decide (xs.size < ys.size)) Q E (xs.toList.zip ys.toList) s):
  wpAny (model prog w) A (compareOp .Lt (.ref x) (.ref y)) Q E s:=by
 have tx:s.TypeIs (.ref x) "tuple":=⟨_,hx,rfl⟩
 have ty:s.TypeIs (.ref y) "tuple":=⟨_,hy,rfl⟩
 refine cmp_ofLt (wpAny_richCompare_same_room tx ty F.slot_tuple_lt (vU F.slot_tuple_lt tx F.entry_tuple_lt ?_ (F.args_tuple_lt_2 _ _)) (vV hu (by decide)))
 rw [yVz]
 refine qA (wpAny_isInstance ty (b:=true) (by rw [isSubtype_type];kernel_rfl) ?_)
 simp only [Bool.not_true,wH,if_false]
 refine qA (wpAny_tupleItemsOf hx rfl ?_)
 refine qA (wpAny_tupleItemsOf hy rfl ?_)
 refine qA (tup_loop (fin:=decide (xs.size < ys.size)) (Q:=Q) (fun p q s' R' h'=>?_) (fun s' hq=>?_) (fun v s' hq=>?_) _ s h)
 ·dsimp only
  refine qA (qL h' (fun e s'' he=>?_) fun _ _ x=>x)
  cases e with
  | true=>
   simp only [if_true] at he
   (try simp only [Bool.not_true,wH,if_false])
   exact qI he
  | false=>
   simp only [wH,if_false] at he
   (try simp only [Bool.not_false,if_true])
   refine qA (vI ?_)
   exact qA (qL he (fun v s3 hv=>qA (qI (qI hv))) fun _ _ x=>x)
 ·exact qI ⟨_,rfl,by unfold Builtin.Tuple.tupleCompareSizes;simp,hq⟩
 ·exact qI ⟨_,rfl,hq.1,hq.2⟩
theorem rich_lt_int {a b:Int} {t u:Tok} {Q:VS} (h:Q (.bool (decide (a < b))) s):wpAny (model prog w) A (richCompare .Lt (.int a t) (.int b u)) Q E s:=lt_int h
end
section
variable {f:Nat->Nat->Bool}
structure SWO (f:Nat->Nat->Bool):Prop where
 asym:∀ a b,f a b=true->f b a=false
 ntr:∀ a b c,f a b=false->f b c=false->f a c=false
theorem SWO.tr (o:SWO f) {a b c:Nat} (h1:f a b=true) (h2:f b c=true):f a c=true:=by
 cases h:f a c with
 | true=>rfl
 | false=>
  have:=o.ntr a c b h (o.asym _ _ h2)
  rw [h1] at this;cases this
theorem SWO.lt_le (o:SWO f) {a b c:Nat} (h1:f a b=true) (h2:f c b=false):f a c=true:=by
 cases h:f a c with
 | true=>rfl
 | false=>
  have:=o.ntr a c b h h2
  rw [h1] at this;cases this
theorem SWO.le_lt (o:SWO f) {a b c:Nat} (h1:f b a=false) (h2:f b c=true):f a c=true:=by
 cases h:f a c with
 | true=>rfl
 | false=>
  have:=o.ntr b a c h1 h
  rw [h2] at this;cases this
def lt2 (f:Nat->Nat->Bool) (a b:Nat):Prop:=f a b=true\/(f b a=false/\a < b)
theorem yYU (o:SWO f) {a b:Nat} (h1:f b a=false) (h2:a < b):lt2 f a b:=.inr ⟨h1,h2⟩
theorem lt2_not (o:SWO f) {a b:Nat} (h:lt2 f a b):f b a=false:=h.elim (o.asym _ _) (·.1)
theorem yYT (o:SWO f) {a b c:Nat} (h1:lt2 f a b) (h2:lt2 f b c):lt2 f a c:=by
 rcases h1 with h1 | ⟨h1,l1⟩
 ·exact .inl (o.lt_le h1 (lt2_not o h2))
 ·rcases h2 with h2 | ⟨h2,l2⟩
  ·exact .inl (o.le_lt h1 h2)
  ·exact .inr ⟨o.ntr _ _ _ h2 h1,vV l1 l2⟩
noncomputable abbrev g (p:Array Nat) (k:Nat):Nat:=p.getD k 0
structure yJc (f:Nat->Nat->Bool) (N:Nat) (p:Array Nat) (n:Nat):Prop where
 size:p.size=N
 perm:p.Perm (List.range N).toArray
 asc:∀ i j,i < j->j < n->lt2 f (g p i) (g p j)
 low:∀ i,i < n->g p i < n
 rest:∀ k,n<=k->k < N->g p k=k
theorem yAA {p:Array Nat} {i j k:Nat} (hj:j<=p.size):g (kas_rev p i j) k=if i<=k/\k < j then g p (i+j - 1 - k) else g p k:=by
 have e:=getElem?_mirror_all (i:=i) hj k
 unfold g kas_rev
 rw [Array.getD_eq_getD_getElem?,e]
 split<;>rw [<- Array.getD_eq_getD_getElem?]
theorem yVD {p:Array Nat} {i j:Nat}:(kas_rev p i j).Perm p:=mirror_perm _ _ _ _
theorem yVC {p:Array Nat} {i j:Nat}:(kas_rev p i j).size=p.size:=mirror_size _ _ _ _
theorem yDC {p:Array Nat} {src l k:Nat} (hs:src < p.size) (hl:l<=src):g (bubble p src (src - l)) k=if k=l then g p src else if l < k/\k<=src then g p (k - 1) else g p k:=by
 have e:=getElem?_bubble hs (src - l) (vD _ _) k
 unfold g
 rw [Array.getD_eq_getD_getElem?,e]
 rw [show src - (src - l)=l by exact (qH (jg3 [_,_,_,_] 0xf2a31fa032f1ab0 na (nc (jg2 [_,_] 0xf01f1ab0 (vD _ _)))) (jg3 [_,_,_,_] 0xf2a13fa302f1ab0 na (nc (jg2 [_,_] 0xf01f1ab0 hl))))]
 simp only [Array.getD_eq_getD_getElem?]
 split
 ·rfl
 ·split<;>rfl
theorem yJc.next (o:SWO f) {N:Nat} {p:Array Nat} {n:Nat} (u:yJc f N p n) (h1:1<=n) (hn:n < N) (hc:f (g p n) (g p (n - 1))=false):yJc f N p (n+1):=by
 have hr:g p n=n:=u.rest n (vC _) hn
 refine ⟨u.size,u.perm,fun i j hij hj=>?_,fun i hi=>?_,fun k hk hk'=>u.rest k (jg2 [_,_] 0xf0ab1f1ab0 hk) hk'⟩
 ·by_cases hjn:j < n
  ·exact u.asc i j hij hjn
  ·have:j=n:=by exact (qH (jg2 [_,_] 0xfab0ab1f1ab0 hj) (jg2 [_,_] 0xf01f1ab0 (qO hjn :)))
   subst this
   refine yYU o ?_ (by rw [hr];exact u.low i hij)
   by_cases hi:i=j - 1
   ·subst hi;exact hc
   ·exact o.ntr _ _ _ hc (lt2_not o (u.asc i (j - 1) (jl2 [_,_] 0xf0ab1f10 (qQ (jg3 [_,_,_] 0xfab02f2ab1f1ab0 hij na) hi)) (jl2 [_,_] 0xf0ab1f10 (nc (jg2 [_] 0xf0bfbab0 h1)))))
 ·by_cases hin:i < n
  ·have:=u.low i hin;exact (jl2 [_,_] 0xf0ab1f1ab0 this)
  ·have:i=n:=by exact (qH (jg2 [_,_] 0xfab0ab1f1ab0 hi) (jg2 [_,_] 0xf01f1ab0 (qO hin :)))
   subst this;exact (jl2 [_,_] 0xf01f1ab0 (qD hr :))
structure yWF (f:Nat->Nat->Bool) (N:Nat) (p:Array Nat) (n q:Nat):Prop where
 size:p.size=N
 perm:p.Perm (List.range N).toArray
 le:q+1<=n
 blk:∀ i j,n - (q+1)<=i->i < j->j < n->f (g p i) (g p j)=false/\f (g p j) (g p i)=false/\g p i < g p j
 cut:∀ i j,i < n - (q+1)->n - (q+1)<=j->j < n->f (g p j) (g p i)=true
 dsc:∀ i j,i < j->j < n - (q+1)->lt2 f (g p j) (g p i)
 low:∀ i,i < n->g p i < n
 rest:∀ k,n<=k->k < N->g p k=k
theorem yWF.turn (o:SWO f) {N:Nat} {p:Array Nat} {n q:Nat} (u:yWF f N p n q) (hn:n<=N):
  let p':=if q > 0 then kas_rev p (n - (q+1)) n else p
  p'.size=N/\p'.Perm (List.range N).toArray/\(∀ i j,i < j->j < n->lt2 f (g p' j) (g p' i))/\(∀ i,i < n->g p' i < n)/\(∀ k,n<=k->k < N->g p' k=k):=by
 have hs:=u.size
 have hle:=u.le
 intro p'
 by_cases hq:q > 0
 ·have e:p'=kas_rev p (n - (q+1)) n:=qN hq
  have gk:∀ k,g p' k=if n - (q+1)<=k/\k < n then g p (n - (q+1)+n - 1 - k) else g p k:=fun k=>by rw [e];exact yAA (jg3 [_,_,_] 0xf02f21f1ab0 hn (qD (hs).symm :))
  refine ⟨by rw [e,yVC];exact hs,by rw [e];exact yVD.trans u.perm,fun i j hij hj=>?_,fun i hi=>?_,fun k hk hk'=>?_⟩
  ·rw [gk,gk]
   by_cases h1:n - (q+1)<=i
   ·rw [qN (by exact (⟨jg3 [_,_,_] 0xf21f0ab2f1ab0 hij h1,jl2 [_,_] 0xf0ab1f10 hj⟩)),qN (by exact (⟨jg2 [_,_] 0xf01f1ab0 h1,jl3 [_,_,_] 0xf0ab2f2ab1f10 hij hj⟩))]
    obtain ⟨a,b,c⟩:=u.blk (n - (q+1)+n - 1 - j) (n - (q+1)+n - 1 - i) (jg4 [_,_,_,_,_] 0xfab4a31fa204f3ab2f1ab0 hj na na) (jl4 [_,_,_,_,_] 0xf4a31fa204f3ab2f10 hij na (nc (jg3 [_,_,_,_] 0xfab0a23f2ab1f1ab0 hj na))) (np8 (Nat.zero_lt_of_lt hj) h1)
    exact yYU o b c
   ·rw [qM (show ¬ (n - (q+1)<=i/\i < n) by exact (fun zzq=>nq2 [_,_] 0xf0ab1f10 ((zzq).1) (vA h1 :)))]
    by_cases h2:n - (q+1)<=j
    ·rw [qN (by exact (⟨jg2 [_,_] 0xf01f1ab0 h2,jl2 [_,_] 0xf0ab1f10 hj⟩))]
     exact .inl (u.cut i _ (jl2 [_,_] 0xf0ab1f10 (vA h1 :)) (jg4 [_,_,_,_,_] 0xfab4a31fa204f3ab2f1ab0 hj na na) (np8 (Nat.zero_lt_of_lt hj) h2))
    ·rw [qM (by exact (fun zzq=>nq2 [_,_] 0xf0ab1f10 ((zzq).1) (vA h2 :)))]
     exact u.dsc i j hij (jl2 [_,_] 0xf0ab1f10 (vA h2 :))
  ·rw [gk];split
   ·exact u.low _ (np8 (Nat.zero_lt_of_lt (by assumption)) (And.left (by assumption)))
   ·exact u.low i hi
  ·rw [gk,qM (by exact (fun zzq=>nq2 [_,_] 0xf01f1ab0 ((zzq).2) hk))];exact u.rest k hk hk'
 ·have e:p'=p:=qM hq
  have hq0:q=0:=by exact (qH (jg2 [_] 0xf0c0f0ab0c (qO hq :)) (jg1 [_] 0xf0cab0 ))
  subst hq0
  rw [e]
  refine ⟨hs,u.perm,fun i j hij hj=>?_,u.low,u.rest⟩
  by_cases h2:j < n - (0+1)
  ·exact u.dsc i j hij h2
  ·exact .inl (u.cut i j (jl4 [_,_,_,_] 0xfaab0c03f3ab2f2ab1f10 hij hj na) (jg2 [_,_] 0xf01f1ab0 (qO h2 :)) hj)
theorem yWF.least (o:SWO f) {N:Nat} {p:Array Nat} {n q:Nat} (u:yWF f N p n q):∀ i,i < n->f (g p i) (g p (n - 1))=false:=fun i hi=>by
 have hle:=u.le
 by_cases h1:i < n - (q+1)
 ·exact o.asym _ _ (u.cut i (n - 1) h1 (jg3 [_,_,_,_] 0xf2aab31fab02f1ab0 na (nc (jg2 [_,_] 0xf0ab1fab1ab0 hle))) (jl2 [_,_] 0xf0ab1f10 (nc (jg2 [_,_] 0xf0ab1fbab0 hi))))
 ·by_cases h2:i=n - 1
  ·subst h2
   cases hh:f (g p (n - 1)) (g p (n - 1)) with
   | false=>rfl
   | true=>have:=o.asym _ _ hh;rw [hh] at this;cases this
  ·exact (u.blk i (n - 1) (jg2 [_,_] 0xf01f1ab0 (qO h1 :)) (jl2 [_,_] 0xf0ab1f10 (qQ (jg3 [_,_,_] 0xfab02f2ab1f1ab0 hi na) h2)) (jl2 [_,_] 0xf0ab1f10 (nc (jg2 [_,_] 0xf0ab1fbab0 hi)))).1
theorem yWF.lt (o:SWO f) {N:Nat} {p:Array Nat} {n q:Nat} (u:yWF f N p n q) (hn:n < N) (hc:f (g p n) (g p (n - 1))=true):yWF f N (if q > 0 then kas_rev p (n - (q+1)) n else p) (n+1) 0:=by
 have hle:=u.le
 have hr:g p n=n:=u.rest n (vC _) hn
 obtain ⟨t1,t2,t3,t4,t5⟩:=u.turn o (jg2 [_,_] 0xf0ab1f1ab0 hn)
 have hlast:∀ i,i < n->∃ i',i' < n/\g (if q > 0 then kas_rev p (n - (q+1)) n else p) i=g p i':=fun i hi=>by
  by_cases hq:q > 0
  ·rw [qN hq,yAA (by rw [u.size];exact (jg2 [_,_] 0xf0ab1f1ab0 hn))]
   split
   ·exact ⟨_,np8 (Nat.zero_lt_of_lt hi) (And.left (by assumption)),rfl⟩
   ·exact ⟨i,hi,rfl⟩
  ·rw [qM hq];exact ⟨i,hi,rfl⟩
 have hn':g (if q > 0 then kas_rev p (n - (q+1)) n else p) n=n:=t5 n (vC _) (jl2 [_,_] 0xf0ab1f10 hn)
 refine ⟨t1,t2,(jg1 [_] 0xfab0cabab0 ),fun i j h1 h2 h3=>absurd (vR h1 h2) (vX.mpr (Nat.le_of_lt_succ h3)),fun i j h1 h2 h3=>?_,fun i j h1 h2=>t3 i j h1 (jl3 [_,_,_] 0xfab0aab0c2f2ab1f10 h2 (nc (jg1 [_] 0xfab0cabab0 ))),fun i hi=>?_,fun k hk hk'=>t5 k (jg2 [_,_] 0xf0ab1f1ab0 hk) hk'⟩
 ·have:j=n:=by exact (qH (jg2 [_,_] 0xfab0ab1f1ab0 h3) (jg3 [_,_,_] 0xfaab0c2ab1f02f1ab0 h2 na))
  subst this
  obtain ⟨i',hi',e⟩:=hlast i (jl3 [_,_,_] 0xf02f2ab1f10 h1 h2)
  rw [hn',e,<- hr]
  exact o.lt_le hc (u.least o i' hi')
 ·by_cases h:i < n
  ·have:=t4 i h;exact (jl2 [_,_] 0xf0ab1f1ab0 this)
  ·have:i=n:=by exact (qH (jg2 [_,_] 0xfab0ab1f1ab0 hi) (jg2 [_,_] 0xf01f1ab0 (qO h :)))
   subst this;exact (jl2 [_,_] 0xf01f1ab0 (qD hn' :))
theorem yWF.eq (o:SWO f) {N:Nat} {p:Array Nat} {n q:Nat} (u:yWF f N p n q) (hn:n < N) (hc:f (g p n) (g p (n - 1))=false) (hd:f (g p (n - 1)) (g p n)=false):yWF f N p (n+1) (q+1):=by
 have hle:=u.le
 have hr:g p n=n:=u.rest n (vC _) hn
 refine ⟨u.size,u.perm,(jg2 [_,_] 0xf0ab1fabab1abab0 hle),fun i j h1 h2 h3=>?_,fun i j h1 h2 h3=>?_,fun i j h1 h2=>u.dsc i j h1 (jl4 [_,_,_,_,_] 0xfab3aabab42faab403f2ab1f10 h2 na (nc (jg2 [_,_] 0xf0ab1fabab1abab0 hle))),fun i hi=>?_,fun k hk hk'=>u.rest k (jg2 [_,_] 0xf0ab1f1ab0 hk) hk'⟩
 ·by_cases hj:j < n
  ·exact u.blk i j (jg4 [_,_,_,_,_] 0xf3aab41faabab42ab3f02f1ab0 h1 na (nc (jg2 [_,_] 0xf0ab1fab1ab0 hle))) h2 hj
  ·have:j=n:=by exact (qH (jg2 [_,_] 0xfab0ab1f1ab0 h3) (jg2 [_,_] 0xf01f1ab0 (qO hj :)))
   subst this
   refine ⟨?_,?_,by rw [hr];exact u.low i (jl2 [_,_] 0xf0ab1f10 h2)⟩
   ·exact o.ntr _ _ _ (u.least o i (jl2 [_,_] 0xf0ab1f10 h2)) hd
   ·refine o.ntr _ _ _ hc ?_
    by_cases h4:i=j - 1
    ·subst h4;exact u.least o _ (jl2 [_,_] 0xf0ab1f10 h2)
    ·exact (u.blk i (j - 1) (jg4 [_,_,_,_,_] 0xf3aab41faabab42ab3f02f1ab0 h1 na (nc (jg2 [_,_] 0xf0ab1fab1ab0 hle))) (jl2 [_,_] 0xf0ab1f10 (qQ (jg3 [_,_,_] 0xfab02f2ab1f1ab0 h2 na) h4)) (jl2 [_,_] 0xf0ab1f10 (nc (jg2 [_,_] 0xf0ab1fbab0 h2)))).2.1
 ·by_cases hj:j < n
  ·exact u.cut i j (jl4 [_,_,_,_,_] 0xfab3aabab42faab403f2ab1f10 h1 na (nc (jg2 [_,_] 0xf0ab1fabab1abab0 hle))) (jg4 [_,_,_,_,_] 0xf3aab41faabab42ab3f02f1ab0 h2 na (nc (jg2 [_,_] 0xf0ab1fab1ab0 hle))) hj
  ·have:j=n:=by exact (qH (jg2 [_,_] 0xfab0ab1f1ab0 h3) (jg2 [_,_] 0xf01f1ab0 (qO hj :)))
   subst this
   exact o.le_lt hd (u.cut i (j - 1) (jl4 [_,_,_,_,_] 0xfab3aabab42faab403f2ab1f10 h1 na (nc (jg2 [_,_] 0xf0ab1fabab1abab0 hle))) (jg3 [_,_,_,_] 0xf2aab31fab02f1ab0 na (nc (jg2 [_,_] 0xf0ab1fab1ab0 hle))) (Nat.sub_lt (qP (Nat.succ_pos q) (by assumption)) Nat.one_pos))
 ·by_cases h:i < n
  ·have:=u.low i h;exact (jl2 [_,_] 0xf0ab1f1ab0 this)
  ·have:i=n:=by exact (qH (jg2 [_,_] 0xfab0ab1f1ab0 hi) (jg2 [_,_] 0xf01f1ab0 (qO h :)))
   subst this;exact (jl2 [_,_] 0xf01f1ab0 (qD hr :))
theorem yWF.done (o:SWO f) {N:Nat} {p:Array Nat} {n q:Nat} (u:yWF f N p n q) (hn:n<=N):yJc f N (kas_rev (if q > 0 then kas_rev p (n - (q+1)) n else p) 0 n) n:=by
 obtain ⟨hs,hp,hd,hl,hr⟩:=u.turn o hn
 generalize (if q > 0 then kas_rev p (n - (q+1)) n else p)=p' at hs hp hd hl hr ⊢
 have gk:∀ k,g (kas_rev p' 0 n) k=if k < n then g p' (n - 1 - k) else g p' k:=fun k=>by
  rw [yAA (jg3 [_,_,_] 0xf02f21f1ab0 hn (qD (hs).symm :))];simp only [vZ,true_and,zero_add]
 refine ⟨by rw [yVC];exact hs,yVD.trans hp,fun i j hij hj=>?_,fun i hi=>?_,fun k hk hk'=>?_⟩
 ·rw [gk,gk,qN (jl3 [_,_,_] 0xf0ab2f2ab1f10 hij hj),qN hj];exact hd _ _ (jl4 [_,_,_,_,_] 0xf4a31fa204f3ab2f10 hij na (nc (jg3 [_,_,_] 0xfab02f2ab1f1ab0 hj na))) (jl3 [_,_,_] 0xf0ab2f21f10 (vD _ _) (nc (jg2 [_,_] 0xf0ab1fbab0 hj)))
 ·rw [gk,qN hi];exact hl _ (jl3 [_,_,_] 0xf0ab2f21f10 (vD _ _) (nc (jg2 [_,_] 0xf0ab1fbab0 hi)))
 ·rw [gk,qM (by exact (fun zzq=>nq2 [_,_] 0xf01f1ab0 zzq hk))];exact hr k hk hk'
theorem yJc.falls (o:SWO f) {N:Nat} {p:Array Nat} {n:Nat} (c:yJc f N p n) (h1:n > 1) (hn:n < N) (d':f (g p n) (g p (n - 1))=true) (hc:f (g p 0) (g p (n - 1))=false):yWF f N (kas_rev p 0 n) (n+1) 0:=by
 have eq:∀ i j,i < n->j < n->f (g p i) (g p j)=false:=fun i j hi hj=>by
  have x1:f (g p i) (g p 0)=false\/i=0:=by
   by_cases q:i=0
   ·exact .inr q
   ·exact .inl (lt2_not o (c.asc 0 i (jl2 [_] 0xf0bf0c0 (vP q :)) hi))
  have x2:f (g p (n - 1)) (g p j)=false\/j=n - 1:=by
   by_cases q:j=n - 1
   ·exact .inr q
   ·exact .inl (lt2_not o (c.asc j (n - 1) (jl2 [_,_] 0xf0ab1f10 (qQ (jg3 [_,_,_] 0xfab02f2ab1f1ab0 hj na) q)) (jl2 [_,_] 0xf0ab1f10 (nc (jg2 [_] 0xf0abbfbab0 h1)))))
  have y1:f (g p i) (g p (n - 1))=false:=by
   rcases x1 with x1 | rfl
   ·exact o.ntr _ _ _ x1 hc
   ·exact hc
  rcases x2 with x2 | rfl
  ·exact o.ntr _ _ _ y1 x2
  ·exact y1
 have gk:∀ k,g (kas_rev p 0 n) k=if k < n then g p (n - 1 - k) else g p k:=fun k=>by
  rw [yAA (by rw [c.size];exact (jg2 [_,_] 0xf0ab1f1ab0 hn))];simp only [vZ,true_and,zero_add]
 refine ⟨by rw [yVC];exact c.size,yVD.trans c.perm,(jg2 [_] 0xf0abbfab0cabab0 h1),fun i j h1 h2 h3=>absurd (vR h1 h2) (vX.mpr (Nat.le_of_lt_succ h3)),fun i j h1 h2 h3=>?_,fun i j h1 h2=>?_,fun i hi=>?_,fun k hk hk'=>?_⟩
 ·have:j=n:=by exact (qH (jg2 [_,_] 0xfab0ab1f1ab0 h3) (jg3 [_,_,_] 0xfaab0c2ab1f02f1ab0 h2 na))
  subst this
  rw [gk,gk,qM (by exact (fun zzq=>nq1 [_] 0xf0ab0 zzq)),qN (jl3 [_,_,_] 0xf02f2ab1f10 h1 h2)]
  exact o.lt_le d' (eq _ _ (jl3 [_,_,_] 0xf0ab2f21f10 (vD _ _) (nc (jg3 [_,_,_] 0xf02f2ab1fbab0 h1 h2))) (jl2 [_,_] 0xf0ab1f10 (nc (jg3 [_,_,_] 0xf02f2ab1fbab0 h1 h2))))
 ·rw [gk,gk,qN (jl3 [_,_,_] 0xfab0aab0c2f2ab1f10 h2 (nc (jg1 [_] 0xfab0cabab0 ))),qN (jl4 [_,_,_,_] 0xfab03f3ab2f2ab1f10 h1 h2 (vD _ _))]
  exact c.asc _ _ (jl4 [_,_,_,_,_] 0xf4a31fa204f3ab2f10 h1 na (nc (jg4 [_,_,_,_] 0xfab3aab0c2fab03f2ab1f1ab0 h2 na (nc (jg1 [_] 0xfab0cabab0 ))))) (jl3 [_,_,_] 0xf0ab2f21f10 (vD _ _) (nc (jg4 [_,_,_,_] 0xfab03f3ab2f2ab1fbab0 h1 h2 (vD _ _))))
 ·rw [gk];split
  ·have:=c.low (n - 1 - i) (jl3 [_,_,_] 0xf0ab2f21f10 (vD _ _) (nc (jg2 [_] 0xf0abbfbab0 h1)));exact (jl2 [_,_] 0xf0ab1f1ab0 this)
  ·have:i=n:=qH (Nat.le_of_lt_succ hi) (qO (by assumption))
   subst this
   have:=c.rest i (vC _) (jl2 [_,_] 0xf0ab1f10 hn);exact (jl2 [_,_] 0xf01f1ab0 (qD this :))
 ·rw [gk,qM (by exact (fun zzq=>nq2 [_,_] 0xf0ab1f1ab0 zzq hk))];exact c.rest k (jg2 [_,_] 0xf0ab1f1ab0 hk) hk'
theorem yJc.falls1 (o:SWO f) {N:Nat} {p:Array Nat} (c:yJc f N p 1) (hn:1 < N) (d':f (g p 1) (g p 0)=true):yWF f N p 2 0:=by
 refine ⟨c.size,c.perm,(jg1 [] 0xfab0cab2c ),fun i j h1 h2 h3=>absurd (vR h1 h2) (vX.mpr (Nat.le_of_lt_succ h3)),fun i j h1 h2 h3=>?_,fun i j h1 h2=>by exact (False.elim (nq3 [_,_,_] 0xf2caab0c2f2ab1f1ab0 h1 h2 (nc (jg1 [] 0xfab0cab2c )))),fun i hi=>?_,fun k hk hk'=>c.rest k (jg2 [_] 0xf02cfbab0 hk) hk'⟩
 ·have:j=1:=by exact (qH (jg2 [_] 0xf2cab0f0abb h3) (jg3 [_,_] 0xfaab0c12cf01fbab0 h2 na))
  have:i=0:=by exact (qH (jg4 [_,_,_] 0xf2cab2f21f1ab0f0ab0c h1 h2 h3) (jg1 [_] 0xf0cab0 ))
  subst_vars
  exact d'
 ·by_cases h:i < 1
  ·have:=c.low i h;exact (jl2 [_] 0xfbab0f02c this)
  ·have:i=1:=by exact (qH (jg2 [_] 0xf2cab0f0abb hi) (jg2 [_] 0xf0bfbab0 (qO h :)))
   subst this
   have:=c.rest 1 (vC _) (jl2 [_] 0xf0abbfb0 hn);exact (jl2 [_] 0xfb0f02c (qD this :))
theorem yJc.put (o:SWO f) {N:Nat} {p:Array Nat} {k l:Nat} (u:yJc f N p k) (hk:k < N) (a:l<=k) (b:∀ i,i < l->f (g p k) (g p i)=false) (c:∀ i,l<=i->i < k->f (g p k) (g p i)=true):yJc f N (bubble p k (k - l)) (k+1):=by
 have hr:g p k=k:=u.rest k (vC _) (jl2 [_,_] 0xf0ab1f10 hk)
 have gk:∀ i,g (bubble p k (k - l)) i=if i=l then g p k else if l < i/\i<=k then g p (i - 1) else g p i:=fun i=>yDC (by rw [u.size];exact (jl2 [_,_] 0xf0ab1f10 hk)) a
 refine ⟨by rw [bubble_size];exact u.size,(bubble_perm _ _ _).trans u.perm,fun i j hij hj=>?_,fun i hi=>?_,fun m hm hm'=>?_⟩
 ·rw [gk,gk]
  by_cases hi:i=l
  ·rw [qN hi,qM (by exact (fun zzq=>nq3 [_,_,_] 0xf21f0ab2f10 (qD zzq :) hij (qD (hi).symm :))),qN (by exact (⟨jl3 [_,_,_] 0xf21f0ab2f10 hij (qD (hi).symm :),jg2 [_,_] 0xfab0ab1f1ab0 hj⟩))]
   exact .inl (c _ (jg4 [_,_,_,_] 0xfab03f21f3ab2f1ab0 hij (qD (hi).symm :) na) (jl3 [_,_,_] 0xf2ab1fab0ab2f10 hj (nc (jg2 [_,_] 0xf0ab1fbab0 hij))))
  ·rw [qM hi]
   by_cases hj':j=l
   ·rw [qN hj',qM (by exact (fun zzq=>nq3 [_,_,_] 0xf02f2ab1f1ab0 ((zzq).1) hij (qD hj' :)))]
    exact yYU o (b i (jl3 [_,_,_] 0xf02f2ab1f10 hij (qD hj' :))) (by rw [hr];exact u.low i (jl3 [_,_,_] 0xfab0ab2f2ab1f10 hij hj))
   ·rw [qM hj']
    by_cases h2:l < i
    ·rw [qN (by exact (⟨jl2 [_,_] 0xf0ab1f10 h2,jg3 [_,_,_] 0xfab0ab2f2ab1f1ab0 hij hj⟩)),qN (by exact (⟨jl3 [_,_,_] 0xf2ab1f0ab2f10 hij h2,jg2 [_,_] 0xfab0ab1f1ab0 hj⟩))];exact u.asc _ _ (jl4 [_,_,_,_] 0xf2ab1fab03f3ab2f10 hij na (nc (jg2 [_,_] 0xf0ab1fbab0 h2))) (jl3 [_,_,_] 0xf2ab1fab0ab2f10 hj (nc (jg2 [_,_] 0xf0ab1fbab0 hij)))
    ·rw [qM (by exact (fun zzq=>nq2 [_,_] 0xf01f1ab0 ((zzq).1) (qO h2 :)))]
     by_cases h3:l < j
     ·rw [qN (by exact (⟨jl2 [_,_] 0xf0ab1f10 h3,jg2 [_,_] 0xfab0ab1f1ab0 hj⟩))];exact u.asc _ _ (jl4 [_,_,_,_] 0xf2ab1fab03f3ab2f10 h3 na (qQ (jg2 [_,_] 0xf01f1ab0 (qO h2 :)) hi)) (jl3 [_,_,_] 0xf2ab1fab0ab2f10 hj (nc (jg2 [_,_] 0xf0ab1fbab0 h3)))
     ·rw [qM (by exact (fun zzq=>nq2 [_,_] 0xf01f1ab0 ((zzq).1) (qO h3 :)))];exact u.asc _ _ hij (jl3 [_,_,_] 0xf2ab1f02f10 a (qQ (jg2 [_,_] 0xf01f1ab0 (qO h3 :)) hj'))
 ·rw [gk];split
  ·exact (jl2 [_,_] 0xf01f1ab0 (qD hr :))
  ·split
   ·have:=u.low (i - 1) (qP (Nat.sub_lt (Nat.zero_lt_of_lt (And.left (by assumption))) Nat.one_pos) (And.right (by assumption)));exact (jl2 [_,_] 0xf0ab1f1ab0 this)
   ·have:=u.low i (np44 (by assumption) (by assumption) (by assumption) (by assumption));exact (jl2 [_,_] 0xf0ab1f1ab0 this)
 ·rw [gk,qM (by exact (fun zzq=>nq3 [_,_,_] 0xf0ab2f21f10 (qD zzq :) a hm)),qM (by exact (fun zzq=>nq2 [_,_] 0xf0ab1f10 ((zzq).2) hm))];exact u.rest m (jg2 [_,_] 0xf0ab1f1ab0 hm) hm'
end
noncomputable def gallop':Bool->Keyed->Array Keyed->Nat->Nat->Nat->StateT SortSt Sem (Option Nat):=sortPriv% PySem.Builtin.gallop
noncomputable def mergeLo':Array Keyed->Array Keyed->StateT SortSt Sem (Array Keyed):=sortPriv% PySem.Builtin.mergeLo
noncomputable def mergeHi':Array Keyed->Array Keyed->StateT SortSt Sem (Array Keyed):=sortPriv% PySem.Builtin.mergeHi
section
variable {M:Model} {A:Around} {E:VS} {σ:Type}
theorem kasC_mono {α:Type} {m:StateT σ Sem α} {Q Q':α->σ->Shared->Prop} {st:σ} {s:Shared} (h:kasC M A E m Q st s) (hq:∀ a st' s',Q a st' s'->Q' a st' s'):kasC M A E m Q' st s:=
 qL h (fun _ _ x=>hq _ _ _ x) fun _ _ e=>e
theorem yWm {β:Type} {f:Nat->β->StateT σ Sem (ForInStep β)} {Q:β->σ->Shared->Prop} (I:Nat->β->σ->Shared->Prop)
  (step:∀ n x b st s,I (n+1) b st s->kasC M A E (f x b) (fun r st' s'=>match r with | .done b'=>Q b' st' s' | .yield b'=>I n b' st' s') st s)
  (fin:∀ b st s,I 0 b st s->Q b st s):∀ (l:List Nat) (b:β) (st:σ) (s:Shared),I l.length b st s->kasC M A E (forIn l b f) Q st s
 | [],b,st,s,h=>kasC_nil (fin b st s h)
 | x::l,b,st,s,h=>kasC_cons (qL (step l.length x b st s h) (fun r s' hr=>by
   obtain ⟨r,st'⟩:=r
   cases r with
   | done b'=>exact hr
   | yield b'=>exact yWm I step fin l b' st' s' hr) fun _ _ e=>e)
end
section
variable {A:Around} {E:VS} {κ:SortKind} {it:Array Keyed} {X:(Nat->Nat->Bool)->Prop} {N:Nat} {Inv:Shared->Prop} {Fl:VS}
noncomputable def SS (κ:SortKind) (xs:Array Keyed) (pd:Array (Nat×Nat×Nat)) (gl:Nat):SortSt:=SortSt.mk' κ xs pd gl none
def yZP (prog:Program) (w:World) (A:Around) (κ:SortKind) (it:Array Keyed) (X:(Nat->Nat->Bool)->Prop) (N:Nat) (Inv:Shared->Prop) (Fl:VS):Prop:=
 ∀i j (C:Bool->Shared->Prop) s,i < N->j < N->Inv s->(∀ b s',(∀ f,X f->f i j=b)->Inv s'->C b s')->wpAny (model prog w) A (keyLt' κ (kas_item it i).1 (kas_item it j).1) C Fl s
theorem k_lt (hA:yZP prog w A κ it X N Inv Fl) {i j:Nat} {xs:Array Keyed} {pd:Array (Nat×Nat×Nat)} {gl:Nat} {Q:Option Bool->SortSt->Shared->Prop} {s:Shared} (hi:i < N) (hj:j < N) (hI:Inv s)
  (h:∀ b s',(∀ f,X f->f i j=b)->Inv s'->Q (some b) (SS κ xs pd gl) s') (hd:∀ e s',Fl e s'->Q none (SortSt.mk' κ xs pd gl (some e)) s'):
  kasC (model prog w) A E (lt' (kas_item it i) (kas_item it j)) Q (SS κ xs pd gl) s:=by
 rw [lt'_eq]
 refine qK (kasC_get ?_)
 refine qK (kasC_lift (wpAny_attempt (qL (hA i j (fun b s'=>(∀ f,X f->f i j=b)/\Inv s') s hi hj hI fun b s' h1 h2=>⟨h1,h2⟩) (fun c s' hc=>?_) fun e s' he=>?_)))
 ·exact qJ (h c s' hc.1 hc.2)
 ·exact qK (kasC_modify (qJ (hd e s' he)))
theorem k_elem {arr:Array Keyed} {i:Nat} {x:Keyed} {Q:Keyed->SortSt->Shared->Prop} {st:SortSt} {s:Shared} (h:arr[i]?=some x) (hq:Q x st s):kasC (model prog w) A E (elem' arr i) Q st s:=by
 rw [elem'_eq,h];exact qJ hq
theorem k_beyond (hA:yZP prog w A κ it X N Inv Fl) (hX:∀ f,X f->SWO f) {left:Bool} {arr:Array Keyed} {i x k:Nat} {xs:Array Keyed} {pd:Array (Nat×Nat×Nat)} {gl:Nat} {Q:Option Bool->SortSt->Shared->Prop} {s:Shared}
  (ha:arr[i]?=some (kas_item it x)) (hx:x < N) (hk:k < N) (hI:Inv s) (pl:if left then k < x else x < k)
  (h:∀ b s',(∀ f,X f->(b=true↔lt2 f x k))->Inv s'->Q (some b) (SS κ xs pd gl) s') (hd:∀ e s',Fl e s'->Q none (SortSt.mk' κ xs pd gl (some e)) s'):
  kasC (model prog w) A E (elem' arr i >>= fun y=>if left=true then lt' y (kas_item it k) else lt' (kas_item it k) y >>= fun r=>pure (Option.map (fun b=>!b) r)) Q (SS κ xs pd gl) s:=by
 refine qK (k_elem ha ?_)
 cases left with
 | true=>
  rw [qN rfl]
  refine k_lt hA hx hk hI (fun b s' hb hi=>h b s' (fun f hf=>?_) hi) hd
  rw [<- hb f hf]
  simp only [if_true] at pl
  exact ⟨fun q=>.inl q,fun q=>q.elim id fun z=>absurd z.2 (by exact (fun zzq=>nq2 [_,_] 0xf0ab1f1ab0 zzq pl))⟩
 | false=>
  rw [qM (by decide)]
  refine qK (k_lt hA hk hx hI (fun b s' hb hi=>qJ (h (!b) s' (fun f hf=>?_) hi)) fun e s' he=>qJ (hd e s' he))
  rw [<- hb f hf]
  simp only [wH,if_false] at pl
  cases q:f k x with
  | true=>exact ⟨fun z=>(by cases z),fun z=>z.elim (fun y=>by have:=(hX f hf).asym _ _ y;rw [q] at this;cases this) fun y=>by rw [q] at y;cases y.1⟩
  | false=>exact ⟨fun O=>.inr ⟨q,pl⟩,fun O=>rfl⟩
structure Cut (X:(Nat->Nat->Bool)->Prop) (q:Nat->Nat) (k n lo hi:Nat):Prop where
 t:∀ f,X f->∀ i,i < lo->lt2 f (q i) k
 f:∀ f,X f->∀ i,hi<=i->i < n->¬ lt2 f (q i) k
 le:lo<=hi
 hi:hi<=n
end
namespace K_k_gallop
def zP (A:Around) (E:VS) (κ:SortKind) (it:Array Keyed) (X:(Nat->Nat->Bool)->Prop) (N:Nat) (Inv:Shared->Prop) (Fl:VS) (arr:Array Keyed) (base n hint k:Nat) (q:Nat->Nat) (xs:Array Keyed) (pd:Array (Nat×Nat×Nat)) (gl:Nat) (Q:Option Nat->SortSt->Shared->Prop) (s:Shared):Prop:=∀ (hA:yZP prog w A κ it X N Inv Fl) (hX:∀ f,X f->SWO f) (left:Bool) (ha:∀ i,i < n->arr[base+i]?=some (kas_item it (q i))) (hq:∀ i,i < n->q i < N) (hk:k < N) (hI:Inv s) (pl:∀ i,i < n->if left then k < q i else q i < k) (hh:hint < n) (asc:∀ f,X f->∀ i j,i < j->j < n->lt2 f (q i) (q j)) (h:∀ r s',Cut X q k n r r->Inv s'->Q (some r) (SS κ xs pd gl) s') (hd:∀ e s',Fl e s'->Q none (SortSt.mk' κ xs pd gl (some e)) s'),
  kasC (model prog w) A E (gallop' left (kas_item it k) arr base n hint) Q (SS κ xs pd gl) s
def zc:=ep (U19 zP) ⟨({},fun O O=>True,oneType',#[],fun O=>True,0,fun O=>True,fun O O=>True,#[],0,0,0,0,fun O=>0,#[],#[],0,fun O O O=>True,(start default).1)⟩
def zd1:=zc.2.2.2.2.2.2.2.2
def zd2:=zd1.2.2.2.2.2.2.2.2
def A:=zc.1
def E:=zc.2.1
def κ:=zc.2.2.1
def it:=zc.2.2.2.1
def X:=zc.2.2.2.2.1
def Inv:=zc.2.2.2.2.2.2.1
def Fl:=zc.2.2.2.2.2.2.2.1
def arr:=zd1.1
def base:=zd1.2.1
def n:=zd1.2.2.1
def hint:=zd1.2.2.2.1
def k:=zd1.2.2.2.2.1
def q:=zd1.2.2.2.2.2.1
def xs:=zd1.2.2.2.2.2.2.1
noncomputable def pd:=zd1.2.2.2.2.2.2.2.1
def gl:=zd2.1
def Q:=zd2.2.1
def s:=zd2.2.2
theorem zh:zP A E κ it X zc.2.2.2.2.2.1 Inv Fl arr base n hint k q xs pd gl Q s:=by
 intro hA hX left ha hq hk hI pl hh asc h hd
 have up:∀ f,X f->∀ i j,j < n->i<=j->lt2 f (q j) k->lt2 f (q i) k:=fun f hf i j hj hij hl=>by
  by_cases e:i=j
  ·rw [e];exact hl
  ·exact yYT (hX f hf) (asc f hf i j (jl2 [_,_] 0xf0ab1f10 (qQ (jg2 [_,_] 0xf01f1ab0 hij) e)) hj) hl
 have last:∀ lo hi (s:Shared),Cut X q k n lo hi->Inv s->∀ Q':(Option (Option Nat)×Nat×Nat)->SortSt->Shared->Prop,(∀ r s',Cut X q k n r r->Inv s'->Q' (none,r,r) (SS κ xs pd gl) s')->(∀ e s' a b,Fl e s'->Q' (some none,a,b) (SortSt.mk' κ xs pd gl (some e)) s')->
   kasC (model prog w) A E (forIn (List.range' 0 (n - 0)) ((none,lo,hi):Option (Option Nat)×Nat×Nat) fun x r=>
    if r.2.1 >= r.2.2 then pure (ForInStep.done (none,r.2.1,r.2.2)) else
    (elem' arr (base+(r.2.1+(r.2.2 - r.2.1) / 2)) >>= fun y=>if left=true then lt' y (kas_item it k) else lt' (kas_item it k) y >>= fun r=>pure (Option.map (fun b=>!b) r)) >>= fun x=>
     match x with
     | some more=>if more=true then pure (ForInStep.yield (none,r.2.1+(r.2.2 - r.2.1) / 2+1,r.2.2)) else pure (ForInStep.yield (none,r.2.1,r.2.1+(r.2.2 - r.2.1) / 2))
     | _=>pure (ForInStep.done (some none,r.2.1,r.2.2))) Q' (SS κ xs pd gl) s:=by
  intro lo hi s c hI Q' hQ hD
  refine yWm (fun m b st s=>X2 fun lo hi=>A5 (b=(none,lo,hi)) (st=SS κ xs pd gl) (Inv s) (Cut X q k n lo hi) (hi - lo<=m)) ?_ ?_ _ _ _ _ ⟨lo,hi,rfl,rfl,hI,c,?_⟩
  ·rintro m x b st s ⟨lo,hi,rfl,rfl,hI,c,hm⟩
   dsimp only
   by_cases e:lo >= hi
   ·rw [qN e]
    have:lo=hi:=qH c.le e
    subst this
    exact qJ (hQ lo s c hI)
   ·rw [qM e]
    have hl:=c.hi
    refine qK (k_beyond hA hX (ha _ (jl6 [_,_,_,_,_] 0xf3a142cfa143f42e2f032cf3ab1fa2102c (vA e :) hl (vE _ 2) na (nc (jg2 [_,_] 0xf0ab1f1ab0 (vA e :))))) (hq _ (jl6 [_,_,_,_,_] 0xf3a142cfa143f42e2f032cf3ab1fa2102c (vA e :) hl (vE _ 2) na (nc (jg2 [_,_] 0xf0ab1f1ab0 (vA e :))))) hk hI (pl _ (jl6 [_,_,_,_,_] 0xf3a142cfa143f42e2f032cf3ab1fa2102c (vA e :) hl (vE _ 2) na (nc (jg2 [_,_] 0xf0ab1f1ab0 (vA e :))))) (fun b s' hb hI'=>?_) fun e s' he=>qJ (hD e s' _ _ he))
    cases b with
    | true=>
     refine qJ ⟨_,_,rfl,rfl,hI',⟨fun f hf i hi=>up f hf i _ (jl6 [_,_,_,_,_] 0xf3a142cfa143f42e2f032cf3ab1fa2102c (vA e :) hl (vE _ 2) na (nc (jg2 [_,_] 0xf0ab1f1ab0 (vA e :)))) (Nat.le_of_lt_succ hi) ((hb f hf).mp rfl),c.f,(jg5 [_,_,_,_] 0xf0a132cfa130f32e2f0ab1faba21ab02c (vA e :) (vE _ 2) na (nc (jg2 [_,_] 0xf0ab1f1ab0 (vA e :)))),hl⟩,(jg4 [_,_,_,_,_,_] 0xf3aaba541fa423fab02f1ab0 hm na (nc (jg5 [_,_,_,_] 0xf0a132cfa130f32e2f0ab1faba21ab02c (vA e :) (vE _ 2) na (nc (jg2 [_,_] 0xf0ab1f1ab0 (vA e :))))))⟩
    | false=>
     refine qJ ⟨_,_,rfl,rfl,hI',⟨c.t,fun f hf i h1 h2 z=>(by have:=(hb f hf).mpr (up f hf _ i h2 h1 z);cases this),(jg1 [_,_] 0xf0aba10 ),(jg4 [_,_,_,_,_] 0xf3a142cf42e2f032cfa21ab02c hl (vE _ 2) (nc (jg2 [_,_] 0xf0ab1f1ab0 (vA e :))))⟩,(jg4 [_,_,_,_,_] 0xfa34a412cf22e3fab02f1ab02c hm (vE _ 2) (nc (jg1 [_,_] 0xf0aba10 )))⟩
  ·rintro b st s ⟨lo,hi,rfl,rfl,hI,c,hm⟩
   have:lo=hi:=qH c.le (jg3 [_,_,_] 0xfa021f0c2f1ab0 hm na)
   subst this
   exact hQ lo s c hI
  ·have:=c.hi;simp only [length_range'];exact (jg4 [_,_,_,_] 0xf21fa0c03f32f1ab0 this na (vD _ _))
 refine qK (k_beyond hA hX (ha _ hh) (hq _ hh) hk hI (pl _ hh) (fun b s' hb hI'=>?_) fun e s' he=>qJ (hd e s' he))
 dsimp only
 cases b with
 | true=>
  rw [qN rfl]
  refine qK (kasC_mono (Q:=fun b st s=>(X2 fun la ofs=>A7 (b=(none,la,ofs)) (st=SS κ xs pd gl) (Inv s) ((∀ f,X f->lt2 f (q (hint+la)) k)) (hint+la < n) (la < ofs) ((ofs >= n - hint\/(hint+ofs < n/\∀ f,X f->¬ lt2 f (q (hint+ofs)) k))))\/X3 fun e la ofs=>A3 (b=(some none,la,ofs)) (st=SortSt.mk' κ xs pd gl (some e)) (Fl e s)) (kasC_range ?_) ?_)
  rotate_left
  ·rintro b st s (⟨la,ofs,rfl,rfl,hI,ht,h1,h2,h3⟩ | ⟨e,la,ofs,rfl,rfl,he⟩)
   ·dsimp only
    refine qK (kasC_range (last _ _ _ ?_ hI _ (fun r s' c hI=>qJ (h r s' c hI)) fun e s' a b he=>qJ (hd e s' he)))
    refine ⟨fun f hf i hi=>up f hf i (hint+la) h1 (jg2 [_,_,_] 0xfaba10ab2f2aba10 hi) (ht f hf),fun f hf i hi hn z=>?_,by exact (ng fun z=>nq3 [_,_,_,_] 0xf13f3ab2faba20aba10 z h2 (qD (min_eq_left (ng fun z2=>nq4 [_,_,_,_,_] 0xf14fa043f3aba20faba20aba10 z h1 na (qD (min_eq_right (ng fun z1=>nq2 [_,_] 0xf0ab1f1ab0 z2 z1)).symm))).symm)),(jg3 [_,_,_,_] 0xf0a13f32fa21ab0 (min_le_right _ _) (nc (jg2 [_,_] 0xf0ab1f1ab0 hh)))⟩
    rcases h3 with h3 | ⟨h3,h4⟩
    ·exact (nq4 [_,_,_,_,_] 0xf14fa043f3ab2f2a10 hi hn na (qD (min_eq_right (jg2 [_,_] 0xf01f1ab0 h3)).symm))
    ·exact h4 f hf (up f hf _ i hn (jg3 [_,_,_,_] 0xf32f0a31fa21ab0 hi (qD (min_eq_left (jg3 [_,_,_,_] 0xfa203f3aba12f1ab0 h3 na)).symm)) z)
   ·exact qJ (hd e s he)
  refine yWm (fun m b st s=>X2 fun la ofs=>A7 (b=(none,la,ofs)) (st=SS κ xs pd gl) (Inv s) ((∀ f,X f->lt2 f (q (hint+la)) k)) (hint+la < n) (la < ofs) (n+1<=ofs+m)) ?_ ?_ _ _ _ _ ⟨0,1,rfl,rfl,hI',fun f hf=>(hb f hf).mp rfl,hh,(jl1 [] 0xf0cb ),?_⟩
  ·rintro m x b st s ⟨la,ofs,rfl,rfl,hI,ht,h1,h2,h3⟩
   dsimp only
   by_cases e:ofs >= n - hint
   ·rw [qN e]
    exact qJ (.inl ⟨la,ofs,rfl,rfl,hI,ht,h1,h2,.inl e⟩)
   ·rw [qM e]
    refine qK (k_beyond hA hX (ha _ (jl3 [_,_,_,_] 0xf0a13f3ab2fa210 (vA e :) (nc (jg2 [_,_] 0xf0ab1f1ab0 hh)))) (hq _ (jl3 [_,_,_,_] 0xf0a13f3ab2fa210 (vA e :) (nc (jg2 [_,_] 0xf0ab1f1ab0 hh)))) hk hI (pl _ (jl3 [_,_,_,_] 0xf0a13f3ab2fa210 (vA e :) (nc (jg2 [_,_] 0xf0ab1f1ab0 hh)))) (fun b s' hb hI'=>?_) fun e s' he=>qJ (.inr ⟨e,_,_,rfl,rfl,he⟩))
    cases b with
    | true=>exact qJ ⟨ofs,2 * ofs+1,rfl,rfl,hI',fun f hf=>(hb f hf).mp rfl,(jl3 [_,_,_,_] 0xf0a13f3ab2fa210 (vA e :) (nc (jg2 [_,_] 0xf0ab1f1ab0 hh))),(jl1 [_] 0xf0ab2e0 ),(jg2 [_,_,_] 0xfaab10ab2fab2aba1ab2e0 h3)⟩
    | false=>exact qJ (.inl ⟨la,ofs,rfl,rfl,hI',ht,h1,h2,.inr ⟨(jl3 [_,_,_,_] 0xf0a13f3ab2fa210 (vA e :) (nc (jg2 [_,_] 0xf0ab1f1ab0 hh))),fun f hf z=>by have:=(hb f hf).mpr z;cases this⟩⟩)
  ·rintro b st s ⟨la,ofs,rfl,rfl,hI,ht,h1,h2,h3⟩
   exact .inl ⟨la,ofs,rfl,rfl,hI,ht,h1,h2,.inl (jg3 [_,_,_] 0xf21fa0c0ab2f1ab0 h3 (vD _ _))⟩
  ·simp only [length_range'];exact (jg2 [_,_] 0xfa0c01fab1aba0b na)
 | false=>
  rw [qM (by decide)]
  refine qK (kasC_mono (Q:=fun b st s=>(X2 fun la ofs=>A7 (b=(none,la,ofs)) (st=SS κ xs pd gl) (Inv s) ((∀ f,X f->¬ lt2 f (q (hint - la)) k)) (la<=hint) (la < ofs) ((ofs >= hint+1\/(ofs<=hint/\∀ f,X f->lt2 f (q (hint - ofs)) k))))\/X3 fun e la ofs=>A3 (b=(some none,la,ofs)) (st=SortSt.mk' κ xs pd gl (some e)) (Fl e s)) (kasC_range ?_) ?_)
  rotate_left
  ·rintro b st s (⟨la,ofs,rfl,rfl,hI,ht,h1,h2,h3⟩ | ⟨e,la,ofs,rfl,rfl,he⟩)
   ·dsimp only
    refine qK (kasC_range (last _ _ _ ?_ hI _ (fun r s' c hI=>qJ (h r s' c hI)) fun e s' a b he=>qJ (hd e s' he)))
    refine ⟨fun f hf i hi=>?_,fun f hf i hi hn z=>ht f hf (up f hf _ i hn (jg2 [_,_] 0xf01f1ab0 hi) z),qZ (Nat.sub_le_sub_left (Nat.le_min.mpr ⟨h2,succ_le_succ h1⟩) _) (qD (Nat.succ_sub_succ _ _)),(jg3 [_,_,_] 0xf21f0ab2f1ab0 hh (vD _ _))⟩
    rcases h3 with h3 | ⟨h3,h4⟩
    ·exact (False.elim (nq3 [_,_,_,_] 0xf2ab3fab3a21f1ab0 hi (nc (jg2 [_,_] 0xfab01f1abab0 (min_le_right _ _))) (qD (min_eq_right (jg2 [_,_] 0xf0ab1fab1ab0 h3)).symm)))
    ·exact up f hf i (hint - ofs) (jl3 [_,_,_] 0xf21f0ab2f10 hh (vD _ _)) (jg5 [_,_,_,_,_,_] 0xf54fab3a52fa403f2ab1f1ab0 hi na (nc (jg2 [_,_] 0xfab01f1abab0 (min_le_right _ _))) (qD (min_eq_left (jg2 [_,_] 0xf01f1abab0 h3)).symm)) (h4 f hf)
   ·exact qJ (hd e s he)
  refine yWm (fun m b st s=>X2 fun la ofs=>A7 (b=(none,la,ofs)) (st=SS κ xs pd gl) (Inv s) ((∀ f,X f->¬ lt2 f (q (hint - la)) k)) (la<=hint) (la < ofs) (n+1<=ofs+m)) ?_ ?_ _ _ _ _ ⟨0,1,rfl,rfl,hI',fun f hf z=>(by have:=(hb f hf).mpr z;cases this),(jg1 [_] 0xf0cab0 ),(jl1 [] 0xf0cb ),?_⟩
  ·rintro m x b st s ⟨la,ofs,rfl,rfl,hI,ht,h1,h2,h3⟩
   dsimp only
   by_cases e:ofs >= hint+1
   ·rw [qN e]
    exact qJ (.inl ⟨la,ofs,rfl,rfl,hI,ht,h1,h2,.inl e⟩)
   ·rw [qM e]
    refine qK (k_beyond hA hX (ha _ (jl3 [_,_,_] 0xf21f0ab2f10 hh (vD _ _))) (hq _ (jl3 [_,_,_] 0xf21f0ab2f10 hh (vD _ _))) hk hI (pl _ (jl3 [_,_,_] 0xf21f0ab2f10 hh (vD _ _))) (fun b s' hb hI'=>?_) fun e s' he=>qJ (.inr ⟨e,_,_,rfl,rfl,he⟩))
    cases b with
    | false=>exact qJ ⟨ofs,2 * ofs+1,rfl,rfl,hI',fun f hf z=>(by have:=(hb f hf).mpr z;cases this),(jg2 [_,_] 0xfab0ab1f1ab0 (vA e :)),(jl1 [_] 0xf0ab2e0 ),(jg2 [_,_,_] 0xfaab10ab2fab2aba1ab2e0 h3)⟩
    | true=>exact qJ (.inl ⟨la,ofs,rfl,rfl,hI',ht,h1,h2,.inr ⟨(jg2 [_,_] 0xfab0ab1f1ab0 (vA e :)),fun f hf=>(hb f hf).mp rfl⟩⟩)
  ·rintro b st s ⟨la,ofs,rfl,rfl,hI,ht,h1,h2,h3⟩
   exact .inl ⟨la,ofs,rfl,rfl,hI,ht,h1,h2,.inl (jg3 [_,_,_] 0xfa0c0ab2f2ab1fab1ab0 hh h3)⟩
  ·simp only [length_range'];exact (jg2 [_,_] 0xfa0c01fab1aba0b na)
end K_k_gallop
section
variable {A:Around} {E:VS} {κ:SortKind} {it:Array Keyed} {X:(Nat->Nat->Bool)->Prop} {N:Nat} {Inv:Shared->Prop} {Fl:VS}
theorem k_gallop (hA:yZP prog w A κ it X N Inv Fl) (hX:∀ f,X f->SWO f) {left:Bool} {arr:Array Keyed} {base n hint k:Nat} {q:Nat->Nat} {xs:Array Keyed} {pd:Array (Nat×Nat×Nat)} {gl:Nat} {Q:Option Nat->SortSt->Shared->Prop} {s:Shared}
  (ha:∀ i,i < n->arr[base+i]?=some (kas_item it (q i))) (hq:∀ i,i < n->q i < N) (hk:k < N) (hI:Inv s) (pl:∀ i,i < n->if left then k < q i else q i < k) (hh:hint < n)
  (asc:∀ f,X f->∀ i j,i < j->j < n->lt2 f (q i) (q j))
  (h:∀ r s',Cut X q k n r r->Inv s'->Q (some r) (SS κ xs pd gl) s') (hd:∀ e s',Fl e s'->Q none (SortSt.mk' κ xs pd gl (some e)) s'):
  kasC (model prog w) A E (gallop' left (kas_item it k) arr base n hint) Q (SS κ xs pd gl) s:=
 eps (P:=U19 K_k_gallop.zP) K_k_gallop.zh (A,E,κ,it,X,N,Inv,Fl,arr,base,n,hint,k,q,xs,pd,gl,Q,s) hA hX left ha hq hk hI pl hh asc h hd
end
section
variable {it:Array Keyed}
noncomputable def ar (it:Array Keyed) (l:List Nat):Array Keyed:=(l.map (kas_item it)).toArray
theorem yQK {l:List Nat}:(ar it l).size=l.length:=by simp [ar]
theorem yVy {l:List Nat} {i:Nat} (h:i < l.length):(ar it l)[i]?=some (kas_item it (l.getD i 0)):=by
 simp [ar,h]
theorem yVd {l:List Nat} {x:Nat}:(ar it l).push (kas_item it x)=ar it (l++[x]):=by simp [ar]
theorem yQy {l m:List Nat}:ar it l++ar it m=ar it (l++m):=by simp [ar]
theorem yJH {l:List Nat} {i j:Nat}:(ar it l).extract i j=ar it ((l.drop i).take (j - i)):=by
 simp [ar,List.extract_eq_take_drop,map_take,List.map_drop]
theorem yJB {l:List Nat} {i:Nat}:(ar it l).extract i (ar it l).size=ar it (l.drop i):=by
 rw [yJH,yQK,take_of_length_le (by simp)]
theorem yWD {l:List Nat}:(ar it l).reverse=ar it l.reverse:=by simp [ar]
end
structure Mg (X:(Nat->Nat->Bool)->Prop) (la lb lo:List Nat) (ia ib:Nat):Prop where
 perm:lo.Perm (la.take ia++lb.take ib)
 asc:∀ f,X f->lo.Pairwise (lt2 f)
 ahead:∀ f,X f->∀ u∈lo,∀ v,(v∈la.drop ia\/v∈lb.drop ib)->lt2 f u v
section
variable {X:(Nat->Nat->Bool)->Prop} {la lb lo:List Nat} {ia ib:Nat}
theorem yQC {l:List Nat} {i:Nat} (h:i < l.length):l.take (i+1)=l.take i++[l.getD i 0]:=by
 rw [List.take_succ,qR,qT h];rfl
theorem yQm {l:List Nat} {i:Nat} (h:i < l.length):l.drop i=l.getD i 0::l.drop (i+1):=by
 rw [drop_eq_getElem_cons h,qR,qT h];rfl
theorem Mg.b (m:Mg X la lb lo ia ib) (ha:∀ f,X f->la.Pairwise (lt2 f)) (hb:∀ f,X f->lb.Pairwise (lt2 f)) (h:ib < lb.length) (hw:∀ f,X f->∀ v∈la.drop ia,lt2 f (lb.getD ib 0) v):Mg X la lb (lo++[lb.getD ib 0]) ia (ib+1):=by
 refine ⟨?_,fun f hf=>?_,fun f hf u hu v hv=>?_⟩
 ·rw [yQC h,<- vS];exact m.perm.append_right _
 ·refine vY.mpr ⟨m.asc f hf,pairwise_singleton _ _,fun u hu v hv=>?_⟩
  rw [qC] at hv;subst hv
  exact m.ahead f hf u hu _ (.inr (by rw [yQm h];exact .head _))
 ·rcases qF.mp hu with hu | hu
  ·exact m.ahead f hf u hu v (hv.imp id fun z=>by rw [yQm h];exact .tail _ z)
  ·rw [qC] at hu;subst hu
   rcases hv with hv | hv
   ·exact hw f hf v hv
   ·have:=(hb f hf).sublist (drop_sublist ib lb)
    rw [yQm h] at this
    exact (pairwise_cons.mp this).1 v hv
theorem Mg.a (m:Mg X la lb lo ia ib) (ha:∀ f,X f->la.Pairwise (lt2 f)) (hb:∀ f,X f->lb.Pairwise (lt2 f)) (h:ia < la.length) (hw:∀ f,X f->∀ v∈lb.drop ib,lt2 f (la.getD ia 0) v):Mg X la lb (lo++[la.getD ia 0]) (ia+1) ib:=by
 refine ⟨?_,fun f hf=>?_,fun f hf u hu v hv=>?_⟩
 ·rw [yQC h]
  refine (m.perm.append_right _).trans ?_
  rw [vS,vS]
  exact (perm_append_comm).append_left _
 ·refine vY.mpr ⟨m.asc f hf,pairwise_singleton _ _,fun u hu v hv=>?_⟩
  rw [qC] at hv;subst hv
  exact m.ahead f hf u hu _ (.inl (by rw [yQm h];exact .head _))
 ·rcases qF.mp hu with hu | hu
  ·exact m.ahead f hf u hu v (hv.imp (fun z=>by rw [yQm h];exact .tail _ z) id)
  ·rw [qC] at hu;subst hu
   rcases hv with hv | hv
   ·have:=(ha f hf).sublist (drop_sublist ia la)
    rw [yQm h] at this
    exact (pairwise_cons.mp this).1 v hv
   ·exact hw f hf v hv
theorem Mg.as (ha:∀ f,X f->la.Pairwise (lt2 f)) (hb:∀ f,X f->lb.Pairwise (lt2 f)):∀ (k:Nat) {lo:List Nat} {ia:Nat},Mg X la lb lo ia ib->ia+k<=la.length->(∀ f,X f->∀ i,i < k->∀ v∈lb.drop ib,lt2 f (la.getD (ia+i) 0) v)->Mg X la lb (lo++(la.drop ia).take k) (ia+k) ib
 | 0,lo,ia,m,_,_=>by simpa using m
 | k+1,lo,ia,m,h,hw=>by
  have:=Mg.as ha hb k (m.a ha hb (jl2 [_,_,_] 0xf0aab21f10 h) (hw · · 0 (jl1 [_] 0xf0cab0 ))) (jg2 [_,_,_] 0xf0aab21fa2ab1ab0 h) fun f hf i hi v hv=>by
   have:=hw f hf (i+1) (jl2 [_,_] 0xf0ab1fab1ab0 hi) v hv
   rwa [show ia+(i+1)=ia+1+i by exact (qH (jg1 [_,_] 0xfaab10aba1ab0 ) (jg1 [_,_] 0xfa1ab0abaab10 ))] at this
  rw [yQm (jl2 [_,_,_] 0xf0aab21f10 h),take_succ_cons]
  rw [vS] at this
  rw [show ia+(k+1)=ia+1+k by exact (qH (jg1 [_,_] 0xfaab10aba1ab0 ) (jg1 [_,_] 0xfa1ab0abaab10 ))]
  exact this
theorem Mg.bs (ha:∀ f,X f->la.Pairwise (lt2 f)) (hb:∀ f,X f->lb.Pairwise (lt2 f)):∀ (k:Nat) {lo:List Nat} {ib:Nat},Mg X la lb lo ia ib->ib+k<=lb.length->(∀ f,X f->∀ i,i < k->∀ v∈la.drop ia,lt2 f (lb.getD (ib+i) 0) v)->Mg X la lb (lo++(lb.drop ib).take k) ia (ib+k)
 | 0,lo,ib,m,_,_=>by simpa using m
 | k+1,lo,ib,m,h,hw=>by
  have:=Mg.bs ha hb k (m.b ha hb (jl2 [_,_,_] 0xf0aab21f10 h) (hw · · 0 (jl1 [_] 0xf0cab0 ))) (jg2 [_,_,_] 0xf0aab21fa2ab1ab0 h) fun f hf i hi v hv=>by
   have:=hw f hf (i+1) (jl2 [_,_] 0xf0ab1fab1ab0 hi) v hv
   rwa [show ib+(i+1)=ib+1+i by exact (qH (jg1 [_,_] 0xfaab10aba1ab0 ) (jg1 [_,_] 0xfa1ab0abaab10 ))] at this
  rw [yQm (jl2 [_,_,_] 0xf0aab21f10 h),take_succ_cons]
  rw [vS] at this
  rw [show ib+(k+1)=ib+1+k by exact (qH (jg1 [_,_] 0xfaab10aba1ab0 ) (jg1 [_,_] 0xfa1ab0abaab10 ))]
  exact this
def yVe (X:(Nat->Nat->Bool)->Prop) (la lb lm:List Nat):Prop:=lm.Perm (la++lb)/\∀ f,X f->lm.Pairwise (lt2 f)
theorem Mg.endB (m:Mg X la lb lo ia ib) (ha:∀ f,X f->la.Pairwise (lt2 f)) (h:lb.length<=ib):yVe X la lb (lo++la.drop ia++lb.drop ib):=by
 rw [drop_eq_nil_of_le h,append_nil]
 refine ⟨(m.perm.append_right _).trans ?_,fun f hf=>vY.mpr ⟨m.asc f hf,(ha f hf).sublist (drop_sublist _ _),fun u hu v hv=>m.ahead f hf u hu v (.inl hv)⟩⟩
 rw [take_of_length_le h]
 calc (la.take ia++lb++la.drop ia).Perm (lb++la.take ia++la.drop ia):=perm_append_comm.append_right _
  _=lb++la:=by rw [vS,wI]
  (lb++la).Perm (la++lb):=perm_append_comm
theorem Mg.endA (m:Mg X la lb lo ia ib) (hb:∀ f,X f->lb.Pairwise (lt2 f)) (h:la.length<=ia):yVe X la lb (lo++la.drop ia++lb.drop ib):=by
 rw [drop_eq_nil_of_le h,append_nil]
 refine ⟨(m.perm.append_right _).trans ?_,fun f hf=>vY.mpr ⟨m.asc f hf,(hb f hf).sublist (drop_sublist _ _),fun u hu v hv=>m.ahead f hf u hu v (.inr hv)⟩⟩
 rw [take_of_length_le h,vS,wI]
theorem Mg.endL (m:Mg X la lb lo ia ib) (hb:∀ f,X f->lb.Pairwise (lt2 f)) (h:ia+1=la.length) (hl:∀ f,X f->∀ v∈lb,lt2 f v (la.getD ia 0)):yVe X la lb (lo++lb.drop ib++la.drop ia):=by
 have e:la.drop ia=[la.getD ia 0]:=by rw [yQm (jl2 [_,_] 0xf0ab1f10 (qD h :)),drop_eq_nil_of_le (jg2 [_,_] 0xfab01f1abab0 (qD (h).symm :))]
 refine ⟨((m.perm.append_right _).append_right _).trans ?_,fun f hf=>?_⟩
 ·calc (la.take ia++lb.take ib++lb.drop ib++la.drop ia)=la.take ia++lb++la.drop ia:=by rw [vS (la.take ia),wI]
   (la.take ia++lb++la.drop ia).Perm (lb++la.take ia++la.drop ia):=perm_append_comm.append_right _
   _=lb++la:=by rw [vS,wI]
   (lb++la).Perm (la++lb):=perm_append_comm
 ·rw [e]
  refine vY.mpr ⟨vY.mpr ⟨m.asc f hf,(hb f hf).sublist (drop_sublist _ _),fun u hu v hv=>m.ahead f hf u hu v (.inr hv)⟩,pairwise_singleton _ _,fun u hu v hv=>?_⟩
  rw [qC] at hv;subst hv
  rcases qF.mp hu with hu | hu
  ·exact m.ahead f hf u hu _ (.inl (by rw [e];exact .head _))
  ·exact hl f hf u ((drop_sublist _ _).subset hu)
end
theorem yQc {M:Model} {A:Around} {E:VS} {σ β:Type} {c:Prop} [Decidable c] {t e:StateT σ Sem β} {Q:β->σ->Shared->Prop} {st:σ} {s:Shared} (h1:c->kasC M A E t Q st s) (h2:¬ c->kasC M A E e Q st s):kasC M A E (if c then t else e) Q st s:=by
 by_cases h:c
 ·rw [qN h];exact h1 h
 ·rw [qM h];exact h2 h
theorem lt2_tot {f:Nat->Nat->Bool} {x y:Nat} (h:¬ lt2 f x y) (hn:x≠y):lt2 f y x:=by
 cases h1:f x y with
 | true=>exact absurd (.inl h1) h
 | false=>
  cases h2:f y x with
  | true=>exact .inl h2
  | false=>exact .inr ⟨h1,qQ (qO fun q=>h (.inr ⟨h2,q⟩)) (vF hn)⟩
theorem yQj {f:Nat->Nat->Bool} (o:SWO f) {l:List Nat} (hl:l.Pairwise (lt2 f)) {i x:Nat} (hi:i < l.length) (h:lt2 f x (l.getD i 0)):∀ v∈l.drop i,lt2 f x v:=by
 intro v hv
 have p:=hl.sublist (drop_sublist i l)
 rw [yQm hi] at hv p
 rcases qG.mp hv with rfl | hv
 ·exact h
 ·exact yYT o h ((pairwise_cons.mp p).1 v hv)
theorem yQW {R:Nat->Nat->Prop} {l:List Nat} (hl:l.Pairwise R) {i j:Nat} (hij:i < j) (hj:j < l.length):R (l.getD i 0) (l.getD j 0):=by
 have:=pairwise_iff_getElem.mp hl i j (jl3 [_,_,_] 0xf0ab2f2ab1f10 hij hj) hj hij
 simpa [qR,qT hj,qT (show i < l.length by exact (jl3 [_,_,_] 0xf0ab2f2ab1f10 hij hj))] using this
theorem getD_in {l:List Nat} {i:Nat} (h:i < l.length):l.getD i 0∈l:=by
 rw [qR,qT h];exact wK h
section
variable {A:Around} {E:VS} {κ:SortKind} {it:Array Keyed} {X:(Nat->Nat->Bool)->Prop} {N:Nat} {Inv:Shared->Prop} {Fl:VS}
def yXd (κ:SortKind) (it:Array Keyed) (X:(Nat->Nat->Bool)->Prop) (Inv:Shared->Prop) (Fl:VS) (xs:Array Keyed) (pd:Array (Nat×Nat×Nat)) (la lb:List Nat) (r:Array Keyed) (st:SortSt) (s:Shared):Prop:=
 (X2 fun lm gl=>A4 (r=ar it lm) (yVe X la lb lm) (st=SS κ xs pd gl) (Inv s))\/X2 fun e gl=>st=SortSt.mk' κ xs pd gl (some e)/\Fl e s
structure yDM (X:(Nat->Nat->Bool)->Prop) (N:Nat) (la lb:List Nat):Prop where
 o:∀ f,X f->SWO f
 ha:∀ f,X f->la.Pairwise (lt2 f)
 hb:∀ f,X f->lb.Pairwise (lt2 f)
 na:∀ u∈la,u < N
 nb:∀ u∈lb,u < N
 pl:∀ u∈la,∀ v∈lb,u < v
 a0:0 < la.length
 b0:0 < lb.length
 first:∀ f,X f->∀ v∈la,lt2 f (lb.getD 0 0) v
 last:∀ f,X f->∀ v∈lb,lt2 f v (la.getD (la.length - 1) 0)
end
namespace K_k_mergeLo
def zP (A:Around) (E:VS) (κ:SortKind) (it:Array Keyed) (X:(Nat->Nat->Bool)->Prop) (N:Nat) (Inv:Shared->Prop) (Fl:VS) (la lb:List Nat) (xs:Array Keyed) (pd:Array (Nat×Nat×Nat)) (gl:Nat) (Q:Array Keyed->SortSt->Shared->Prop) (s:Shared):Prop:=∀ (hA:yZP prog w A κ it X N Inv Fl) (m:yDM X N la lb) (hI:Inv s) (h:∀ r st s',yXd κ it X Inv Fl xs pd la lb r st s'->Q r st s'),
  kasC (model prog w) A E (mergeLo' (ar it la) (ar it lb)) Q (SS κ xs pd gl) s
def zc:=ep (U15 zP) ⟨({},fun O O=>True,oneType',#[],fun O=>True,0,fun O=>True,fun O O=>True,[],[],#[],#[],0,fun O O O=>True,(start default).1)⟩
def zd1:=zc.2.2.2.2.2.2.2.2
def A:=zc.1
def E:=zc.2.1
def κ:=zc.2.2.1
def it:=zc.2.2.2.1
def X:=zc.2.2.2.2.1
def Inv:=zc.2.2.2.2.2.2.1
def Fl:=zc.2.2.2.2.2.2.2.1
def la:=zd1.1
def lb:=zd1.2.1
def xs:=zd1.2.2.1
noncomputable def pd:=zd1.2.2.2.1
def gl:=zd1.2.2.2.2.1
def Q:=zd1.2.2.2.2.2.1
def s:=zd1.2.2.2.2.2.2
theorem zh:zP A E κ it X zc.2.2.2.2.2.1 Inv Fl la lb xs pd gl Q s:=by
 intro hA m hI h
 have sa:(ar it la).size=la.length:=yQK
 have sb:(ar it lb).size=lb.length:=yQK
 have ga:∀ i,i < la.length->(ar it la)[i]?=some (kas_item it (la.getD i 0)):=fun i hi=>yVy hi
 have gb:∀ i,i < lb.length->(ar it lb)[i]?=some (kas_item it (lb.getD i 0)):=fun i hi=>yVy hi
 have b0:=m.b0
 have a0:=m.a0
 have endB:∀ {lo ia ib gl s},Mg X la lb lo ia ib->lb.length<=ib->Inv s->yXd κ it X Inv Fl xs pd la lb (ar it lo++(ar it la).extract ia (ar it la).size++(ar it lb).extract ib (ar it lb).size) (SS κ xs pd gl) s:=fun g h1 hI=>
  .inl ⟨_,_,by rw [yJB,yJB,yQy,yQy],g.endB m.ha h1,rfl,hI⟩
 have endA:∀ {lo ia ib gl s},Mg X la lb lo ia ib->la.length<=ia->Inv s->yXd κ it X Inv Fl xs pd la lb (ar it lo++(ar it la).extract ia (ar it la).size++(ar it lb).extract ib (ar it lb).size) (SS κ xs pd gl) s:=fun g h1 hI=>
  .inl ⟨_,_,by rw [yJB,yJB,yQy,yQy],g.endA m.hb h1,rfl,hI⟩
 have endL:∀ {lo ia ib gl s},Mg X la lb lo ia ib->ia+1=la.length->Inv s->yXd κ it X Inv Fl xs pd la lb (ar it lo++(ar it lb).extract ib (ar it lb).size++(ar it la).extract ia (ar it la).size) (SS κ xs pd gl) s:=fun {lo ia ib gl s} g h1 hI=>
  .inl ⟨_,_,by rw [yJB,yJB,yQy,yQy],g.endL m.hb h1 (by have:=m.last;rwa [show la.length - 1=ia by exact (qH (jg3 [_,_,_] 0xf2ab1fab02f1ab0 (qD (h1).symm :) (nc (jg2 [_] 0xf0ab0cfbab0 a0))) (jg3 [_,_,_] 0xfab02f2ab1f1ab0 (qD h1 :) na))] at this),rfl,hI⟩
 refine qK (kasC_lift (vI ?_))
 refine qK (k_elem (gb 0 b0) ?_)
 have g0:Mg X la lb [lb.getD 0 0] 0 1:=by
  have:Mg X la lb [] 0 0:=⟨by simp,fun f hf=>.nil,fun f hf u hu=>by cases hu⟩
  exact this.b m.ha m.hb b0 fun f hf v hv=>m.first f hf v hv
 have e0:#[kas_item it (lb.getD 0 0)]=ar it [lb.getD 0 0]:=by simp [ar]
 rw [e0]
 show kasC _ _ _ (if (1 == (ar it lb).size)=true then pure _ else if (0+1 == (ar it la).size)=true then pure _ else _) _ _ _
 refine yQc (fun c=>qJ (h _ _ _ (endB g0 (by simp only [vG] at c;exact (jg3 [_,_] 0xfb1f10f0abb (qD (sb).symm :) (qD (c).symm :))) hI))) fun c1=>yQc (fun c=>qJ (h _ _ _ (endL g0 (by simp only [vG] at c;exact (qH (jg2 [_] 0xf0ab0cfab0cab0 a0) (jg3 [_,_] 0xfab0c1f10f0abab0c (qD (sa).symm :) (qD (c).symm :)))) hI))) fun c2=>?_
 simp only [vG,sa,sb] at c1 c2
 refine qK (kasC_get (qK (kasC_range ?_)))
 refine kasC_mono (Q:=fun b st s=>∃ r,b.1=some r/\yXd κ it X Inv Fl xs pd la lb r st s) ?_ ?_
 rotate_left
 ·rintro ⟨r,b⟩ st s ⟨r',rfl,hr⟩
  exact qJ (h _ _ _ hr)
 refine yWm (fun n b st s=>X5 fun lo ia ib mg gl=>A7 (b=(none,ar it lo,ia,ib,mg)) (st=SS κ xs pd gl) (Inv s) (Mg X la lb lo ia ib) (ia+1 < la.length) (ib < lb.length) ((la.length - ia)+(lb.length - ib)<=n)) ?_ ?_ _ _ _ _ ⟨[lb.getD 0 0],0,1,_,gl,rfl,rfl,hI,g0,(jl2 [_] 0xf0abab0cfab0c0 (qQ (jg2 [_] 0xf0ab0cfab0cab0 a0) c2)),(jl2 [_] 0xf0abbfb0 (qQ (jg2 [_] 0xf0ab0cfbab0 b0) c1)),?_⟩
 rotate_left
 ·rintro b st s ⟨lo,ia,ib,mg,gl,rfl,rfl,hI,g,h1,h2,h3⟩
  exact (False.elim (nq3 [_,_,_,_] 0xfa021f0ca32f1abab0 h1 h3 na))
 ·simp only [length_range',sa,sb];exact (jg4 [_,_,_,_,_] 0xf42f31fa0c0a43fa21ab0 na (vD _ _) (vD _ _))
 rintro n x b st s ⟨lo,ia,ib,mg,gl,rfl,rfl,hI,g,h1,h2,h3⟩
 refine qK (kasC_mono (Q:=fun b st s=>(X5 fun lo' ia' ib' ac bc=>A7 (b=(none,ar it lo',ia',ib',ac,bc)) (st=SS κ xs pd gl) (Inv s) (Mg X la lb lo' ia' ib') (ia'+1 < la.length) (ib' < lb.length) ((la.length - ia')+(lb.length - ib')<=n))\/∃ r,b.1=some r/\yXd κ it X Inv Fl xs pd la lb r st s) (kasC_range ?_) ?_)
 ·refine yWm (fun n' b st s=>X5 fun lo' ia' ib' ac bc=>A8 (b=(none,ar it lo',ia',ib',ac,bc)) (st=SS κ xs pd gl) (Inv s) (Mg X la lb lo' ia' ib') (ia'+1 < la.length) (ib' < lb.length) ((la.length - ia')+(lb.length - ib')<=n') ((la.length - ia')+(lb.length - ib')<=n+1)) ?_ ?_ _ _ _ _ ⟨lo,ia,ib,_,_,rfl,rfl,hI,g,h1,h2,?_,h3⟩
  ·clear g hI h1 h2 h3
   rintro n' x b st s ⟨lo,ia,ib,ac,bc,rfl,rfl,hI,g,h1,h2,h3,h4⟩
   refine qK (k_elem (gb ib h2) (qK (k_elem (ga ia (jl2 [_,_] 0xf0abab1f10 h1)) (qK (k_lt hA (m.nb _ (getD_in h2)) (m.na _ (getD_in (jl2 [_,_] 0xf0abab1f10 h1))) hI (fun bw s' hbw hI'=>?_) fun e s' he=>?_)))))
   ·have pl:=m.pl _ (getD_in (show ia < la.length by exact (jl2 [_,_] 0xf0abab1f10 h1))) _ (getD_in h2)
    cases bw with
    | true=>
     show kasC _ _ _ (if true=true then _ else _) _ _ _
     rw [qN rfl]
     have g':=g.b m.ha m.hb h2 fun f hf=>yQj (m.o f hf) (m.ha f hf) (jl2 [_,_] 0xf0abab1f10 h1) (.inl (hbw f hf))
     refine qK (k_elem (gb ib h2) ?_)
     show kasC _ _ _ (if (ib+1 == (ar it lb).size)=true then pure (ForInStep.done (some ((ar it lo).push _++_++_),_)) else if bc+1 >= mg then pure (ForInStep.done (none,(ar it lo).push _,ia,ib+1,0,bc+1)) else pure (ForInStep.yield (none,(ar it lo).push _,ia,ib+1,0,bc+1))) _ _ _
     rw [yVd]
     refine yQc (fun c=>qJ (.inr ⟨_,rfl,endB g' (by simp only [vG,sb] at c;exact qD c.symm) hI'⟩)) fun c=>?_
     simp only [vG,sb] at c
     exact yQc (fun O=>qJ (.inl ⟨_,_,_,_,_,rfl,rfl,hI',g',h1,(jl2 [_,_] 0xf0abab1fab10 (qQ (jg2 [_,_] 0xf0ab1fab1ab0 h2) c)),(jg4 [_,_,_,_,_,_] 0xf4aab52fa534fab0a31fa21ab0 h4 na (nc (jg2 [_,_] 0xf0ab1fab1ab0 h2)))⟩)) fun O=>qJ ⟨_,_,_,_,_,rfl,rfl,hI',g',h1,(jl2 [_,_] 0xf0abab1fab10 (qQ (jg2 [_,_] 0xf0ab1fab1ab0 h2) c)),(jg4 [_,_,_,_,_,_] 0xf4aab52fa534fab0a31fa21ab0 h3 na (nc (jg2 [_,_] 0xf0ab1fab1ab0 h2))),(jg4 [_,_,_,_,_,_] 0xf4aab52fa534fab0a31fa21abab0 h4 na (nc (jg2 [_,_] 0xf0ab1fab1ab0 h2)))⟩
    | false=>
     show kasC _ _ _ (if false=true then _ else _) _ _ _
     rw [qM (by decide)]
     have g':=g.a m.ha m.hb (jl2 [_,_] 0xf0abab1f10 h1) fun f hf=>yQj (m.o f hf) (m.hb f hf) h2 (.inr ⟨hbw f hf,pl⟩)
     refine qK (k_elem (ga ia (jl2 [_,_] 0xf0abab1f10 h1)) ?_)
     show kasC _ _ _ (if (ia+1+1 == (ar it la).size)=true then pure (ForInStep.done (some ((ar it lo).push _++_++_),_)) else if ac+1 >= mg then pure (ForInStep.done (none,(ar it lo).push _,ia+1,ib,ac+1,0)) else pure (ForInStep.yield (none,(ar it lo).push _,ia+1,ib,ac+1,0))) _ _ _
     rw [yVd]
     refine yQc (fun c=>qJ (.inr ⟨_,rfl,endL g' (by simp only [vG,sa] at c;exact c) hI'⟩)) fun c=>?_
     simp only [vG,sa] at c
     exact yQc (fun O=>qJ (.inl ⟨_,_,_,_,_,rfl,rfl,hI',g',(jl2 [_,_] 0xf0ababab1fabab10 (qQ (jg2 [_,_] 0xf0abab1fabab1ab0 h1) c)),h2,(jg4 [_,_,_,_,_,_] 0xf4aab51fa534fab0a23fa21ab0 h4 na (nc (jg2 [_,_] 0xf0abab1fab1ab0 h1)))⟩)) fun O=>qJ ⟨_,_,_,_,_,rfl,rfl,hI',g',(jl2 [_,_] 0xf0ababab1fabab10 (qQ (jg2 [_,_] 0xf0abab1fabab1ab0 h1) c)),h2,(jg4 [_,_,_,_,_,_] 0xf4aab51fa534fab0a23fa21ab0 h3 na (nc (jg2 [_,_] 0xf0abab1fab1ab0 h1))),(jg4 [_,_,_,_,_,_] 0xf4aab51fa534fab0a23fa21abab0 h4 na (nc (jg2 [_,_] 0xf0abab1fab1ab0 h1)))⟩
   ·exact qJ (.inr ⟨_,rfl,.inr ⟨e,_,rfl,he⟩⟩)
  ·rintro b st s ⟨lo',ia',ib',ac,bc,rfl,rfl,hI,g,h1,h2,h3,h4⟩
   exact (False.elim (nq3 [_,_,_,_] 0xfa021f0ca32f1abab0 h1 h3 na))
  ·simp only [length_range',sa,sb];exact Nat.add_le_add (vD _ _) (vD _ _)
 clear g hI h1 h2 h3
 rintro b st s (⟨lo,ia,ib,ac,bc,rfl,rfl,hI,g,h1,h2,h3⟩ | ⟨r,hr,he⟩)
 rotate_left
 ·obtain ⟨r0,b⟩:=b
  dsimp only at hr
  subst hr
  exact qJ ⟨_,rfl,he⟩
 refine qK (kasC_lift (vI ?_))
 refine qK (kasC_mono (Q:=fun b st s=>(X7 fun lo' ia' ib' mg gl ac bc=>A7 (b=(none,ar it lo',ia',ib',mg,ac,bc)) (st=SS κ xs pd gl) (Inv s) (Mg X la lb lo' ia' ib') (ia'+1 < la.length) (ib' < lb.length) ((la.length - ia')+(lb.length - ib')<=n))\/∃ r,b.1=some r/\yXd κ it X Inv Fl xs pd la lb r st s) (kasC_range ?_) ?_)
 rotate_left
 ·rintro b st s (⟨lo,ia,ib,mg,gl,ac,bc,rfl,rfl,hI,g,h1,h2,h3⟩ | ⟨r,hr,he⟩)
  ·exact qK (kasC_modify (qJ ⟨_,_,_,_,_,rfl,rfl,hI,g,h1,h2,h3⟩))
  ·obtain ⟨r0,b⟩:=b
   dsimp only at hr
   subst hr
   exact qJ ⟨_,rfl,he⟩
 refine yWm (fun n' b st s=>X7 fun lo' ia' ib' mg gl ac bc=>A8 (b=(none,ar it lo',ia',ib',mg,ac,bc)) (st=SS κ xs pd gl) (Inv s) (Mg X la lb lo' ia' ib') (ia'+1 < la.length) (ib' < lb.length) ((la.length - ia')+(lb.length - ib')<=n') ((la.length - ia')+(lb.length - ib')<=n)) ?_ ?_ _ _ _ _ ⟨lo,ia,ib,_,gl,_,_,rfl,rfl,hI,g,h1,h2,?_,h3⟩
 rotate_left
 ·rintro b st s ⟨lo',ia',ib',mg,gl,ac,bc,rfl,rfl,hI,g,h1,h2,h3,h4⟩
  exact (False.elim (nq3 [_,_,_,_] 0xfa021f0ca32f1abab0 h1 h3 na))
 ·simp only [length_range',sa,sb];exact Nat.add_le_add (vD _ _) (vD _ _)
 clear g hI h1 h2 h3
 rintro n' x b st s ⟨lo,ia,ib,mg,gl,ac,bc,rfl,rfl,hI,g,h1,h2,h3,h4⟩
 extract_lets -underBinder _ _ _ _ _ _ _ _ _ _ _ jp
 show kasC _ _ _ (if mg > 1 then jp () (mg - 1) else jp () mg) _ _ _
 suffices hj:∀ mg,kasC (model prog w) A E (jp () mg) _ (SS κ xs pd gl) s from yQc (fun O=>hj _) fun O=>hj _
 intro mg
 refine qK (kasC_modify ?_)
 refine qK (k_elem (gb ib h2) ?_)
 refine qK (k_gallop (pd:=pd) (gl:=mg) (base:=ia) (n:=(ar it la).size - ia) (k:=lb.getD ib 0) (q:=fun i=>la.getD (ia+i) 0) hA m.o (fun i hi=>ga _ (jl4 [_,_,_,_,_] 0xf3a14f4ab2f03fa210 (qD sa :) hi (nc (jg3 [_,_,_] 0xf2abab1f02f1ab0 (qD (sa).symm :) h1)))) (fun i hi=>m.na _ (getD_in (jl4 [_,_,_,_,_] 0xf3a14f4ab2f03fa210 (qD sa :) hi (nc (jg3 [_,_,_] 0xf2abab1f02f1ab0 (qD (sa).symm :) h1))))) (m.nb _ (getD_in h2)) hI (fun i hi=>m.pl _ (getD_in (jl4 [_,_,_,_,_] 0xf3a14f4ab2f03fa210 (qD sa :) hi (nc (jg3 [_,_,_] 0xf2abab1f02f1ab0 (qD (sa).symm :) h1)))) _ (getD_in h2)) (jl4 [_,_,_,_] 0xfa302f1abab3f21f0c0 (qD (sa).symm :) h1 na) (fun f hf i j hij hj=>yQW (m.ha f hf) (jl2 [_,_,_] 0xf1ab2fa20a10 hij) (jl4 [_,_,_,_,_] 0xf3a14f4ab2f03fa210 (qD sa :) hj (nc (jg3 [_,_,_] 0xf2abab1f02f1ab0 (qD (sa).symm :) h1)))) (fun k s' c hI'=>?_) fun e s' he=>qJ (.inr ⟨_,rfl,.inr ⟨e,_,rfl,he⟩⟩))
 have hk:=c.hi
 rw [sa] at c hk
 have ga':Mg X la lb (lo++(la.drop ia).take k) (ia+k) ib:=g.as m.ha m.hb k (jg3 [_,_,_,_] 0xf0a13f32fa21ab0 hk (nc (jg2 [_,_] 0xf0abab1f1ab0 h1))) fun f hf i hi=>yQj (m.o f hf) (m.hb f hf) h2 (c.t f hf i hi)
 have hbw:∀ f,X f->∀ v∈la.drop (ia+k),lt2 f (lb.getD ib 0) v:=fun f hf v hv=>by
  by_cases e:ia+k < la.length
  ·have hn:=m.pl _ (getD_in e) _ (getD_in h2)
   exact yQj (m.o f hf) (m.ha f hf) e (lt2_tot (c.f f hf k (vC _) (jl3 [_,_,_,_] 0xfa203f3aba12f10 e na)) (vB hn)) v hv
  ·rw [drop_eq_nil_of_le (jg2 [_,_,_] 0xfa102f2aba10 (qO e :))] at hv;cases hv
 clear g c
 dsimp -zeta -zetaHave only
 extract_lets -underBinder _ jp2
 suffices hj:∀ lo ia,Mg X la lb lo ia ib->ia+1 < la.length->(la.length - ia)+(lb.length - ib)<=n'+1->(la.length - ia)+(lb.length - ib)<=n->(∀ f,X f->∀ v∈la.drop ia,lt2 f (lb.getD ib 0) v)->kasC (model prog w) A E (jp2 () (ar it lo) ia) _ (SS κ xs pd mg) s' by
  show kasC _ _ _ (if k > 0 then (if (ia+k+1 == (ar it la).size)=true then pure (ForInStep.done (some (ar it lo++(ar it la).extract ia (ia+k)++(ar it lb).extract ib (ar it lb).size++(ar it la).extract (ia+k) (ar it la).size),_)) else if (ia+k == (ar it la).size)=true then pure (ForInStep.done (some (ar it lo++(ar it la).extract ia (ia+k)++(ar it la).extract (ia+k) (ar it la).size++(ar it lb).extract ib (ar it lb).size),_)) else jp2 () (ar it lo++(ar it la).extract ia (ia+k)) (ia+k)) else jp2 () (ar it lo) ia) _ _ _
  have ek:ar it lo++(ar it la).extract ia (ia+k)=ar it (lo++(la.drop ia).take k):=by rw [yJH,yQy,wF]
  rw [ek]
  refine yQc (fun c=>?_) fun c=>?_
  ·refine yQc (fun c=>qJ (.inr ⟨_,rfl,endL ga' (by simpa only [vG,sa] using c) hI'⟩)) fun c1=>yQc (fun c=>qJ (.inr ⟨_,rfl,endA ga' (by simp only [vG,sa] at c;exact (jg2 [_,_,_] 0xfa102f2aba10 (qD (c).symm :))) hI'⟩)) fun c2=>?_
   simp only [vG,sa] at c1 c2
   exact hj _ _ ga' (jl2 [_,_,_] 0xf0ababa21faba210 (qQ (ng fun z2=>nq3 [_,_,_,_] 0xf2a31fa03ab2f10 hk (qQ (ng fun z1=>nq2 [_,_,_] 0xf0aba21faba21ab0 z2 z1) (vF c2)) (nc (jg2 [_,_] 0xf0abab1f1ab0 h1))) c1)) (jg5 [_,_,_,_,_,_,_] 0xf5aa461fa635f4ab0cfab0a23fa21abab0 h3 c na (nc (jg3 [_,_,_,_] 0xf0a13f32fa21ab0 hk (nc (jg2 [_,_] 0xf0abab1f1ab0 h1))))) (jg5 [_,_,_,_,_,_,_] 0xf5aa461fa635f4ab0cf0a23fa21ab0 h4 c na (nc (jg3 [_,_,_,_] 0xf0a13f32fa21ab0 hk (nc (jg2 [_,_] 0xf0abab1f1ab0 h1))))) hbw
  ·have:k=0:=by exact (qH (jg2 [_] 0xf0c0f0ab0c (qO c :)) (jg1 [_] 0xf0cab0 ))
   subst this
   exact hj _ _ (by simpa using ga') h1 h3 h4 (by simpa using hbw)
 clear hbw ga' hk h1 h3 h4
 intro lo ia g h1 h3 h4 hbw
 have g':=g.b m.ha m.hb h2 hbw
 refine qK (k_elem (gb ib h2) ?_)
 show kasC _ _ _ (if (ib+1 == (ar it lb).size)=true then pure (ForInStep.done (some ((ar it lo).push (kas_item it (lb.getD ib 0))++(ar it la).extract ia (ar it la).size++(ar it lb).extract (ib+1) (ar it lb).size),_)) else _) _ _ _
 rw [yVd]
 refine yQc (fun c=>qJ (.inr ⟨_,rfl,endB g' (by simp only [vG,sb] at c;exact (jg2 [_,_] 0xfab01f1abab0 (qD (c).symm :))) hI'⟩)) fun c=>?_
 simp only [vG,sb] at c
 clear g
 refine qK (k_elem (ga ia (jl2 [_,_] 0xf0abab1f10 h1)) ?_)
 refine qK (k_gallop (pd:=pd) (gl:=mg) (base:=ib+1) (n:=(ar it lb).size - (ib+1)) (k:=la.getD ia 0) (q:=fun i=>lb.getD (ib+1+i) 0) hA m.o (fun i hi=>gb _ (jl4 [_,_,_,_,_] 0xf3aab14f4ab2f03fa2ab10 (qD sb :) hi (nc (jg3 [_,_,_] 0xf2ab1f02fab1ab0 (qD (sb).symm :) h2)))) (fun i hi=>m.nb _ (getD_in (jl4 [_,_,_,_,_] 0xf3aab14f4ab2f03fa2ab10 (qD sb :) hi (nc (jg3 [_,_,_] 0xf2ab1f02fab1ab0 (qD (sb).symm :) h2))))) (m.na _ (getD_in (jl2 [_,_] 0xf0abab1f10 h1))) hI' (fun i hi=>m.pl _ (getD_in (jl2 [_,_] 0xf0abab1f10 h1)) _ (getD_in (jl4 [_,_,_,_,_] 0xf3aab14f4ab2f03fa2ab10 (qD sb :) hi (nc (jg3 [_,_,_] 0xf2ab1f02fab1ab0 (qD (sb).symm :) h2))))) (jl4 [_,_,_,_] 0xf1abab3faab302f21f0c0 (qD (sb).symm :) na (qQ (jg2 [_,_] 0xf0ab1fab1ab0 h2) c)) (fun f hf i j hij hj=>yQW (m.hb f hf) (jl2 [_,_,_] 0xf1ab2fa2ab0a1ab0 hij) (jl4 [_,_,_,_,_] 0xf3aab14f4ab2f03fa2ab10 (qD sb :) hj (nc (jg3 [_,_,_] 0xf2ab1f02fab1ab0 (qD (sb).symm :) h2)))) (fun k2 s2 c2 hI2=>?_) fun e s' he=>qJ (.inr ⟨_,rfl,.inr ⟨e,_,rfl,he⟩⟩))
 have hk:=c2.hi
 rw [sb] at c2 hk
 have gb':Mg X la lb (lo++[lb.getD ib 0]++(lb.drop (ib+1)).take k2) ia (ib+1+k2):=g'.bs m.ha m.hb k2 (jg3 [_,_,_,_] 0xf0aab13f32fa2ab1ab0 hk (nc (jg2 [_,_] 0xf0ab1fab1ab0 h2))) fun f hf i hi=>yQj (m.o f hf) (m.ha f hf) (jl2 [_,_] 0xf0abab1f10 h1) (c2.t f hf i hi)
 have haw:∀ f,X f->∀ v∈lb.drop (ib+1+k2),lt2 f (la.getD ia 0) v:=fun f hf v hv=>by
  by_cases e:ib+1+k2 < lb.length
  ·have hn:=m.pl _ (getD_in (show ia < la.length by exact (jl2 [_,_] 0xf0abab1f10 h1))) _ (getD_in e)
   exact yQj (m.o f hf) (m.hb f hf) e (lt2_tot (c2.f f hf k2 (vC _) (jl3 [_,_,_,_] 0xfaab203f3aba1ab2f10 e na)) (ne_of_gt hn)) v hv
  ·rw [drop_eq_nil_of_le (jg2 [_,_,_] 0xfa1ab02f2aba1ab0 (qO e :))] at hv;cases hv
 clear g' c2
 dsimp -zeta -zetaHave only
 extract_lets -underBinder _ jp3
 suffices hj:∀ lo ib,Mg X la lb lo ia ib->ib < lb.length->(la.length - ia)+(lb.length - ib)<=n'+1->(la.length - ia)+(lb.length - ib)<=n->(∀ f,X f->∀ v∈lb.drop ib,lt2 f (la.getD ia 0) v)->kasC (model prog w) A E (jp3 () (ar it lo) ib) _ (SS κ xs pd mg) s2 by
  show kasC _ _ _ (if k2 > 0 then (if (ib+1+k2 == (ar it lb).size)=true then pure (ForInStep.done (some (ar it (lo++[lb.getD ib 0])++(ar it lb).extract (ib+1) (ib+1+k2)++(ar it la).extract ia (ar it la).size++(ar it lb).extract (ib+1+k2) (ar it lb).size),_)) else jp3 () (ar it (lo++[lb.getD ib 0])++(ar it lb).extract (ib+1) (ib+1+k2)) (ib+1+k2)) else jp3 () (ar it (lo++[lb.getD ib 0])) (ib+1)) _ _ _
  have ek:ar it (lo++[lb.getD ib 0])++(ar it lb).extract (ib+1) (ib+1+k2)=ar it (lo++[lb.getD ib 0]++(lb.drop (ib+1)).take k2):=by rw [yJH,yQy,wF]
  rw [ek]
  refine yQc (fun c=>?_) fun c=>?_
  ·refine yQc (fun c=>qJ (.inr ⟨_,rfl,endB gb' (by simp only [vG,sb] at c;exact (jg2 [_,_,_] 0xfa1ab02f2aba1ab0 (qD (c).symm :))) hI2⟩)) fun c1=>?_
   simp only [vG,sb] at c1
   exact hj _ _ gb' (by exact (nl fun z=>nq3 [_,_,_,_] 0xf2aab31fa0ab3ab2f10 hk (qQ (ng fun z1=>nq2 [_,_,_] 0xf0aba2ab1fa2ab10 z z1) (vF c1)) (nc (jg2 [_,_] 0xf0ab1fab1ab0 h2)))) (jg5 [_,_,_,_,_,_,_] 0xf5aa4ab62fa635f4ab0cfab0a31fa21abab0 h3 c na (nc (jg3 [_,_,_,_] 0xf0aab13f32fa2ab1ab0 hk (nc (jg2 [_,_] 0xf0ab1fab1ab0 h2))))) (jg5 [_,_,_,_,_,_,_] 0xf5aa4ab62fa635f4ab0cf0a31fa21ab0 h4 c na (nc (jg3 [_,_,_,_] 0xf0aab13f32fa2ab1ab0 hk (nc (jg2 [_,_] 0xf0ab1fab1ab0 h2))))) haw
  ·have:k2=0:=by exact (qH (jg2 [_] 0xf0c0f0ab0c (qO c :)) (jg1 [_] 0xf0cab0 ))
   subst this
   exact hj _ _ (by simpa using gb') (by lia) (jg4 [_,_,_,_,_,_] 0xf4aab52fa534fab0a31fa21abab0 h3 na (nc (jg2 [_,_] 0xf0ab1fab1ab0 h2))) (jg4 [_,_,_,_,_,_] 0xf4aab52fa534f0a31fa21ab0 h4 na (nc (jg2 [_,_] 0xf0ab1fab1ab0 h2))) (by simpa using haw)
 clear haw gb' hk h2 h3 h4 c hbw
 intro lo ib g h2 h3 h4 haw
 have g':=g.a m.ha m.hb (jl2 [_,_] 0xf0abab1f10 h1) haw
 refine qK (k_elem (ga ia (jl2 [_,_] 0xf0abab1f10 h1)) ?_)
 show kasC _ _ _ (if (ia+1+1 == (ar it la).size)=true then pure (ForInStep.done (some ((ar it lo).push (kas_item it (la.getD ia 0))++(ar it lb).extract ib (ar it lb).size++(ar it la).extract (ia+1) (ar it la).size),_)) else if _ then pure (ForInStep.done (none,(ar it lo).push (kas_item it (la.getD ia 0)),ia+1,ib,mg,_,_)) else pure (ForInStep.yield (none,(ar it lo).push (kas_item it (la.getD ia 0)),ia+1,ib,mg,_,_))) _ _ _
 rw [yVd]
 refine yQc (fun c=>qJ (.inr ⟨_,rfl,endL g' (by simpa only [vG,sa] using c) hI2⟩)) fun c=>?_
 simp only [vG,sa] at c
 exact yQc (fun O=>qJ (.inl ⟨_,_,_,_,_,_,_,rfl,rfl,hI2,g',(jl2 [_,_] 0xf0ababab1fabab10 (qQ (jg2 [_,_] 0xf0abab1fabab1ab0 h1) c)),h2,(jg4 [_,_,_,_,_,_] 0xf4aab51fa534f0a23fa21ab0 h4 na (nc (jg2 [_,_] 0xf0abab1fab1ab0 h1)))⟩)) fun O=>qJ ⟨_,_,_,_,_,_,_,rfl,rfl,hI2,g',(jl2 [_,_] 0xf0ababab1fabab10 (qQ (jg2 [_,_] 0xf0abab1fabab1ab0 h1) c)),h2,(jg4 [_,_,_,_,_,_] 0xf4aab51fa534fab0a23fa21ab0 h3 na (nc (jg2 [_,_] 0xf0abab1fab1ab0 h1))),(jg4 [_,_,_,_,_,_] 0xf4aab51fa534f0a23fa21ab0 h4 na (nc (jg2 [_,_] 0xf0abab1fab1ab0 h1)))⟩
end K_k_mergeLo
theorem k_mergeLo {A E κ it X N Inv Fl la lb xs pd gl Q s}:K_k_mergeLo.zP A E κ it X N Inv Fl la lb xs pd gl Q s:=eps (P:=U15 K_k_mergeLo.zP) K_k_mergeLo.zh (A,E,κ,it,X,N,Inv,Fl,la,lb,xs,pd,gl,Q,s)
structure Mh (X:(Nat->Nat->Bool)->Prop) (la lb lo:List Nat) (na nb:Nat):Prop where
 perm:lo.Perm (la.drop na++lb.drop nb)
 asc:∀ f,X f->lo.Pairwise (lt2 f)
 behind:∀ f,X f->∀ v∈lo,∀ u,(u∈la.take na\/u∈lb.take nb)->lt2 f u v
section
variable {X:(Nat->Nat->Bool)->Prop} {la lb lo:List Nat} {na nb:Nat}
theorem yQi {f:Nat->Nat->Bool} (o:SWO f) {l:List Nat} (hl:l.Pairwise (lt2 f)) {i x:Nat} (hi:i < l.length) (h:lt2 f (l.getD i 0) x):∀ v∈l.take (i+1),lt2 f v x:=by
 intro v hv
 have p:=hl.sublist (vQ (i+1) l)
 rw [yQC hi] at hv p
 rcases qF.mp hv with hv | hv
 ·exact yYT o ((vY.mp p).2.2 v hv _ (.head _)) h
 ·rw [qC] at hv;subst hv;exact h
theorem mem_take_last {l:List Nat} {i:Nat} (h:i < l.length):l.getD i 0∈l.take (i+1):=by
 rw [yQC h];exact qF.mpr (.inr (.head _))
theorem yJY {l:List Nat} {i u:Nat} (h:u∈l.take i):u∈l.take (i+1):=(List.take_sublist_take_left (le_succ i)).subset h
theorem Mh.a (m:Mh X la lb lo (na+1) nb) (ha:∀ f,X f->la.Pairwise (lt2 f)) (h:na < la.length) (hw:∀ f,X f->∀ u∈lb.take nb,lt2 f u (la.getD na 0)):Mh X la lb (la.getD na 0::lo) na nb:=by
 refine ⟨?_,fun f hf=>?_,fun f hf v hv u hu=>?_⟩
 ·rw [yQm h];exact m.perm.cons _
 ·exact pairwise_cons.mpr ⟨fun v hv=>m.behind f hf v hv _ (.inl (mem_take_last h)),m.asc f hf⟩
 ·rcases qG.mp hv with rfl | hv
  ·rcases hu with hu | hu
   ·have p:=(ha f hf).sublist (vQ (na+1) la)
    rw [yQC h] at p
    exact (vY.mp p).2.2 u hu _ (.head _)
   ·exact hw f hf u hu
  ·exact m.behind f hf v hv u (hu.imp yJY id)
theorem Mh.b (m:Mh X la lb lo na (nb+1)) (hb:∀ f,X f->lb.Pairwise (lt2 f)) (h:nb < lb.length) (hw:∀ f,X f->∀ u∈la.take na,lt2 f u (lb.getD nb 0)):Mh X la lb (lb.getD nb 0::lo) na nb:=by
 refine ⟨?_,fun f hf=>?_,fun f hf v hv u hu=>?_⟩
 ·rw [yQm h]
  refine (m.perm.cons _).trans ?_
  exact List.perm_middle.symm
 ·exact pairwise_cons.mpr ⟨fun v hv=>m.behind f hf v hv _ (.inr (mem_take_last h)),m.asc f hf⟩
 ·rcases qG.mp hv with rfl | hv
  ·rcases hu with hu | hu
   ·exact hw f hf u hu
   ·have p:=(hb f hf).sublist (vQ (nb+1) lb)
    rw [yQC h] at p
    exact (vY.mp p).2.2 u hu _ (.head _)
  ·exact m.behind f hf v hv u (hu.imp id yJY)
theorem yJp {l:List Nat} {i k:Nat} (h:i+k < l.length):(l.drop i).take (k+1)=(l.drop i).take k++[l.getD (i+k) 0]:=by
 rw [yQC (by simp;exact (jl3 [_,_,_,_] 0xfa203f3aba12f10 h na))]
 simp [qR]
theorem Mh.as (ha:∀ f,X f->la.Pairwise (lt2 f)) {at_:Nat}:∀ (k:Nat) {lo:List Nat},Mh X la lb lo (at_+k) nb->at_+k<=la.length->(∀ f,X f->∀ i,i < k->∀ u∈lb.take nb,lt2 f u (la.getD (at_+i) 0))->Mh X la lb ((la.drop at_).take k++lo) at_ nb
 | 0,lo,m,_,_=>by simpa using m
 | k+1,lo,m,h,hw=>by
  have:=Mh.as ha k (m.a (na:=at_+k) ha (jl2 [_,_,_] 0xf0aab21fa210 h) (hw · · k (jl1 [_] 0xf0ab0 ))) (jg2 [_,_,_] 0xf0aab21fa21ab0 h) fun f hf i hi=>hw f hf i (jl2 [_,_] 0xf0ab1f1ab0 hi)
  rw [yJp (jl2 [_,_,_] 0xf0aab21fa210 h),vS]
  exact this
theorem Mh.bs (hb:∀ f,X f->lb.Pairwise (lt2 f)) {at_:Nat}:∀ (k:Nat) {lo:List Nat},Mh X la lb lo na (at_+k)->at_+k<=lb.length->(∀ f,X f->∀ i,i < k->∀ u∈la.take na,lt2 f u (lb.getD (at_+i) 0))->Mh X la lb ((lb.drop at_).take k++lo) na at_
 | 0,lo,m,_,_=>by simpa using m
 | k+1,lo,m,h,hw=>by
  have:=Mh.bs hb k (m.b (nb:=at_+k) hb (jl2 [_,_,_] 0xf0aab21fa210 h) (hw · · k (jl1 [_] 0xf0ab0 ))) (jg2 [_,_,_] 0xf0aab21fa21ab0 h) fun f hf i hi=>hw f hf i (jl2 [_,_] 0xf0ab1f1ab0 hi)
  rw [yJp (jl2 [_,_,_] 0xf0aab21fa210 h),vS]
  exact this
theorem Mh.endA (m:Mh X la lb lo 0 nb) (hb:∀ f,X f->lb.Pairwise (lt2 f)):yVe X la lb (la.take 0++lb.take nb++lo):=by
 rw [take_zero,nil_append]
 refine ⟨(m.perm.append_left _).trans ?_,fun f hf=>vY.mpr ⟨(hb f hf).sublist (vQ _ _),m.asc f hf,fun u hu v hv=>m.behind f hf v hv u (.inr hu)⟩⟩
 rw [drop_zero]
 calc (lb.take nb++(la++lb.drop nb)).Perm ((la++lb.drop nb)++lb.take nb):=perm_append_comm
  _=la++(lb.drop nb++lb.take nb):=by rw [vS]
  (la++(lb.drop nb++lb.take nb)).Perm (la++(lb.take nb++lb.drop nb)):=perm_append_comm.append_left _
  _=la++lb:=by rw [wI]
theorem Mh.endB (m:Mh X la lb lo na 0) (ha:∀ f,X f->la.Pairwise (lt2 f)):yVe X la lb (la.take na++lb.take 0++lo):=by
 rw [take_zero,append_nil]
 refine ⟨(m.perm.append_left _).trans ?_,fun f hf=>vY.mpr ⟨(ha f hf).sublist (vQ _ _),m.asc f hf,fun u hu v hv=>m.behind f hf v hv u (.inl hu)⟩⟩
 rw [drop_zero,<- vS,wI]
theorem Mh.endF (m:Mh X la lb lo na 1) (ha:∀ f,X f->la.Pairwise (lt2 f)) (h:0 < lb.length) (hl:∀ f,X f->∀ v∈la,lt2 f (lb.getD 0 0) v):yVe X la lb (lb.take 1++la.take na++lo):=by
 have e:lb.take 1=[lb.getD 0 0]:=by rw [yQC h];rfl
 refine ⟨(m.perm.append_left _).trans ?_,fun f hf=>?_⟩
 ·calc (lb.take 1++la.take na++(la.drop na++lb.drop 1))=lb.take 1++(la++lb.drop 1):=by rw [vS,<- vS (la.take na),wI]
   (lb.take 1++(la++lb.drop 1)).Perm ((la++lb.drop 1)++lb.take 1):=perm_append_comm
   _=la++(lb.drop 1++lb.take 1):=by rw [vS]
   (la++(lb.drop 1++lb.take 1)).Perm (la++(lb.take 1++lb.drop 1)):=perm_append_comm.append_left _
   _=la++lb:=by rw [wI]
 ·refine vY.mpr ⟨vY.mpr ⟨by rw [e];exact pairwise_singleton _ _,(ha f hf).sublist (vQ _ _),fun u hu v hv=>?_⟩,m.asc f hf,fun u hu v hv=>?_⟩
  ·rw [e,qC] at hu;subst hu
   exact hl f hf v ((vQ _ _).subset hv)
  ·rcases qF.mp hu with hu | hu
   ·exact m.behind f hf v hv u (.inr hu)
   ·exact m.behind f hf v hv u (.inl hu)
end
section
variable {A:Around} {E:VS} {κ:SortKind} {it:Array Keyed} {X:(Nat->Nat->Bool)->Prop} {N:Nat} {Inv:Shared->Prop} {Fl:VS}
theorem yQL {lo:List Nat} {x:Nat}:(ar it lo.reverse).push (kas_item it x)=ar it (x::lo).reverse:=by rw [yVd,List.reverse_cons]
theorem yJA {l:List Nat} {i:Nat}:(ar it l).extract 0 i=ar it (l.take i):=by rw [yJH,drop_zero,Nat.sub_zero]
end
namespace K_k_mergeHi
def zP (A:Around) (E:VS) (κ:SortKind) (it:Array Keyed) (X:(Nat->Nat->Bool)->Prop) (N:Nat) (Inv:Shared->Prop) (Fl:VS) (la lb:List Nat) (xs:Array Keyed) (pd:Array (Nat×Nat×Nat)) (gl:Nat) (Q:Array Keyed->SortSt->Shared->Prop) (s:Shared):Prop:=∀ (hA:yZP prog w A κ it X N Inv Fl) (m:yDM X N la lb) (hI:Inv s) (h:∀ r st s',yXd κ it X Inv Fl xs pd la lb r st s'->Q r st s'),
  kasC (model prog w) A E (mergeHi' (ar it la) (ar it lb)) Q (SS κ xs pd gl) s
def zc:=ep (U15 zP) ⟨({},fun O O=>True,oneType',#[],fun O=>True,0,fun O=>True,fun O O=>True,[],[],#[],#[],0,fun O O O=>True,(start default).1)⟩
def zd1:=zc.2.2.2.2.2.2.2.2
def A:=zc.1
def E:=zc.2.1
def κ:=zc.2.2.1
def it:=zc.2.2.2.1
def X:=zc.2.2.2.2.1
def Inv:=zc.2.2.2.2.2.2.1
def Fl:=zc.2.2.2.2.2.2.2.1
def la:=zd1.1
def lb:=zd1.2.1
def xs:=zd1.2.2.1
noncomputable def pd:=zd1.2.2.2.1
def gl:=zd1.2.2.2.2.1
def Q:=zd1.2.2.2.2.2.1
def s:=zd1.2.2.2.2.2.2
theorem zh:zP A E κ it X zc.2.2.2.2.2.1 Inv Fl la lb xs pd gl Q s:=by
 intro hA m hI h
 have sa:(ar it la).size=la.length:=yQK
 have sb:(ar it lb).size=lb.length:=yQK
 have ga:∀ i,i < la.length->(ar it la)[i]?=some (kas_item it (la.getD i 0)):=fun i hi=>yVy hi
 have gb:∀ i,i < lb.length->(ar it lb)[i]?=some (kas_item it (lb.getD i 0)):=fun i hi=>yVy hi
 have b0:=m.b0
 have a0:=m.a0
 have endA:∀ {lo na nb gl s},Mh X la lb lo na nb->na=0->Inv s->yXd κ it X Inv Fl xs pd la lb ((ar it la).extract 0 na++(ar it lb).extract 0 nb++(ar it lo.reverse).reverse) (SS κ xs pd gl) s:=fun {lo na nb gl s} g h1 hI=>by
  subst h1
  exact .inl ⟨_,_,by rw [yJA,yJA,yWD,yQy,yQy,List.reverse_reverse],g.endA m.hb,rfl,hI⟩
 have endB:∀ {lo na nb gl s},Mh X la lb lo na nb->nb=0->Inv s->yXd κ it X Inv Fl xs pd la lb ((ar it la).extract 0 na++(ar it lb).extract 0 nb++(ar it lo.reverse).reverse) (SS κ xs pd gl) s:=fun {lo na nb gl s} g h1 hI=>by
  subst h1
  exact .inl ⟨_,_,by rw [yJA,yJA,yWD,yQy,yQy,List.reverse_reverse],g.endB m.ha,rfl,hI⟩
 have endF:∀ {lo na nb gl s},Mh X la lb lo na nb->nb=1->Inv s->yXd κ it X Inv Fl xs pd la lb ((ar it lb).extract 0 nb++(ar it la).extract 0 na++(ar it lo.reverse).reverse) (SS κ xs pd gl) s:=fun {lo na nb gl s} g h1 hI=>by
  subst h1
  exact .inl ⟨_,_,by rw [yJA,yJA,yWD,yQy,yQy,List.reverse_reverse],g.endF m.ha b0 m.first,rfl,hI⟩
 refine qK (kasC_lift (vI ?_))
 have hl1:(ar it la).size - 1=la.length - 1:=by rw [sa]
 refine qK (k_elem (by show (ar it la)[(ar it la).size - 1]?=_;rw [hl1];exact ga (la.length - 1) (jl2 [_,_] 0xf0ab1f10 (nc (jg2 [_] 0xf0ab0cfbab0 a0)))) ?_)
 have g0:Mh X la lb [la.getD (la.length - 1) 0] (la.length - 1) lb.length:=by
  have:Mh X la lb [] (la.length - 1+1) lb.length:=⟨by rw [drop_eq_nil_of_le (jg2 [_,_] 0xfab01f1abab0 na),List.drop_length];exact .refl _,fun f hf=>.nil,fun f hf u hu=>by cases hu⟩
  exact this.a m.ha (jl2 [_,_] 0xf0ab1f10 (nc (jg2 [_] 0xf0ab0cfbab0 a0))) fun f hf v hv=>m.last f hf v ((vQ _ _).subset hv)
 have e0:#[kas_item it (la.getD (la.length - 1) 0)]=ar it [la.getD (la.length - 1) 0].reverse:=by simp [ar]
 rw [e0]
 show kasC _ _ _ (if ((ar it la).size - 1 == 0)=true then pure _ else if ((ar it lb).size == 1)=true then pure _ else _) _ _ _
 rw [hl1,sb]
 refine yQc (fun c=>qJ (h _ _ _ (endA g0 (by simpa only [vG] using c) hI))) fun c1=>yQc (fun c=>qJ (h _ _ _ (endF g0 (by simpa only [vG] using c) hI))) fun c2=>?_
 simp only [vG] at c1 c2
 refine qK (kasC_get (qK (kasC_range ?_)))
 refine kasC_mono (Q:=fun b st s=>∃ r,b.1=some r/\yXd κ it X Inv Fl xs pd la lb r st s) ?_ ?_
 rotate_left
 ·rintro ⟨r,b⟩ st s ⟨r',rfl,hr⟩
  exact qJ (h _ _ _ hr)
 obtain ⟨i0,hi0⟩:∃ i0,la.length - 1=i0+1:=⟨la.length - 2,by exact (qH (jg3 [_,_,_] 0xf2ab1fa2c02f1abab0 na (nc (jg2 [_] 0xf0ab0cfbab0 a0))) (jg3 [_,_,_] 0xf2a2c1fab02fab1ab0 na (nc (jg3 [_,_] 0xf0ab1f1bf2cab0 (vP c1 :) (nc (jg2 [_] 0xf0ab0cfbab0 a0))))))⟩
 obtain ⟨j0,hj0⟩:∃ j0,lb.length=j0+2:=⟨lb.length - 2,by exact (qH (jg2 [_,_] 0xfa2c01f1aba2c0 na) (ng fun z=>nq2 [_] 0xfbab0f0ab0c b0 (qQ (ng fun z2=>nq2 [_,_] 0xf0a2c1fa2c1ab0 z (nc (ng fun z1=>nq2 [_] 0xf2cab0f0abb z2 z1))) c2)))⟩
 have hla:la.length=i0+2:=by exact (qH (jg3 [_,_,_] 0xfab21fab02f1aba2c0 (qD hi0 :) na) (jg3 [_,_,_] 0xf0ab2f2ab1fa2c1ab0 (qD (hi0).symm :) (nc (jg2 [_] 0xf0ab0cfbab0 a0))))
 refine yWm (fun n b st s=>X5 fun lo i j mg gl=>A7 (b=(none,i+1,j+2,ar it lo.reverse,mg)) (st=SS κ xs pd gl) (Inv s) (Mh X la lb lo (i+1) (j+2)) (i < la.length) (j+1 < lb.length) (i+j+3<=n)) ?_ ?_ _ _ _ _ ⟨[la.getD (la.length - 1) 0],i0,j0,_,gl,by rw [hi0,hj0],rfl,hI,by rw [<- hi0,<- hj0];exact g0,(jl2 [_,_] 0xf0a2c1f10 (qD (hla).symm :)),(jl2 [_,_] 0xf0a2c1fab10 (qD (hj0).symm :)),?_⟩
 rotate_left
 ·rintro b st s ⟨lo,i,j,mg,gl,rfl,rfl,hI,g,h1,h2,h3⟩
  exact (False.elim (nq1 [_] 0xf0cab0 (qQ (ng fun z1=>nq1 [_,_] 0xf0ca3ca10 h3) c1)))
 ·simp only [length_range',sa];exact (jg4 [_,_,_,_,_] 0xfa0c0a34f4a2c1f3a2c2fa3ca21ab0 (qD (hj0).symm :) (qD (hla).symm :) na)
 clear hi0 hj0 hla
 rintro n x b st s ⟨lo,i,j,mg,gl,rfl,rfl,hI,g,h1,h2,h3⟩
 refine qK (kasC_mono (Q:=fun b st s=>(X5 fun lo' i j ac bc=>A7 (b=(none,i+1,j+2,ar it lo'.reverse,ac,bc)) (st=SS κ xs pd gl) (Inv s) (Mh X la lb lo' (i+1) (j+2)) (i < la.length) (j+1 < lb.length) (i+j+3<=n))\/∃ r,b.1=some r/\yXd κ it X Inv Fl xs pd la lb r st s) (kasC_range ?_) ?_)
 ·refine yWm (fun n' b st s=>X5 fun lo' i j ac bc=>A8 (b=(none,i+1,j+2,ar it lo'.reverse,ac,bc)) (st=SS κ xs pd gl) (Inv s) (Mh X la lb lo' (i+1) (j+2)) (i < la.length) (j+1 < lb.length) (i+j+3<=n') (i+j+3<=n+1)) ?_ ?_ _ _ _ _ ⟨lo,i,j,_,_,rfl,rfl,hI,g,h1,h2,?_,h3⟩
  ·clear g hI h1 h2 h3
   rintro n' x b st s ⟨lo,i,j,ac,bc,rfl,rfl,hI,g,h1,h2,h3,h4⟩
   refine qK (k_elem (gb (j+1) h2) (qK (k_elem (ga i h1) (qK (k_lt hA (m.nb _ (getD_in h2)) (m.na _ (getD_in h1)) hI (fun bw s' hbw hI'=>?_) fun e s' he=>?_)))))
   ·have pl:=m.pl _ (getD_in h1) _ (getD_in h2)
    cases bw with
    | true=>
     show kasC _ _ _ (if true=true then _ else _) _ _ _
     rw [qN rfl]
     have g':=g.a m.ha h1 fun f hf=>yQi (m.o f hf) (m.hb f hf) h2 (.inl (hbw f hf))
     refine qK (k_elem (ga i h1) ?_)
     show kasC _ _ _ (if (i == 0)=true then pure (ForInStep.done (some ((ar it la).extract 0 i++(ar it lb).extract 0 (j+2)++((ar it lo.reverse).push (kas_item it (la.getD i 0))).reverse),_)) else if ac+1 >= mg then pure (ForInStep.done (none,i,j+2,(ar it lo.reverse).push (kas_item it (la.getD i 0)),ac+1,0)) else pure (ForInStep.yield (none,i,j+2,(ar it lo.reverse).push (kas_item it (la.getD i 0)),ac+1,0))) _ _ _
     rw [yQL]
     refine yQc (fun c=>qJ (.inr ⟨_,rfl,endA g' (by simpa only [vG] using c) hI'⟩)) fun c=>?_
     simp only [vG] at c
     obtain ⟨i,rfl⟩:∃ i',i=i'+1:=⟨i - 1,by exact (qH (jg2 [_,_] 0xfab01f1abab0 na) (jg2 [_,_] 0xf0ab1fab1ab0 (nc (jg2 [_] 0xf0bfbab0 (vP c :)))))⟩
     exact yQc (fun O=>qJ (.inl ⟨_,_,_,_,_,rfl,rfl,hI',g',(jl2 [_,_] 0xf0abab1f10 h1),h2,(jg2 [_,_,_] 0xfab0a3ca2ab1fa3ca21ab0 h4)⟩)) fun O=>qJ ⟨_,_,_,_,_,rfl,rfl,hI',g',(jl2 [_,_] 0xf0abab1f10 h1),h2,(jg2 [_,_,_] 0xfab0a3ca2ab1fa3ca21ab0 h3),(jg2 [_,_,_] 0xfab0a3ca2ab1fa3ca21abab0 h4)⟩
    | false=>
     show kasC _ _ _ (if false=true then _ else _) _ _ _
     rw [qM (by decide)]
     have g':=g.b m.hb h2 fun f hf=>yQi (m.o f hf) (m.ha f hf) h1 (.inr ⟨hbw f hf,pl⟩)
     refine qK (k_elem (gb (j+1) h2) ?_)
     show kasC _ _ _ (if (j+1 == 1)=true then pure (ForInStep.done (some ((ar it lb).extract 0 (j+1)++(ar it la).extract 0 (i+1)++((ar it lo.reverse).push (kas_item it (lb.getD (j+1) 0))).reverse),_)) else if bc+1 >= mg then pure (ForInStep.done (none,i+1,j+1,(ar it lo.reverse).push (kas_item it (lb.getD (j+1) 0)),0,bc+1)) else pure (ForInStep.yield (none,i+1,j+1,(ar it lo.reverse).push (kas_item it (lb.getD (j+1) 0)),0,bc+1))) _ _ _
     rw [yQL]
     refine yQc (fun c=>qJ (.inr ⟨_,rfl,endF g' (by simpa only [vG] using c) hI'⟩)) fun c=>?_
     simp only [vG] at c
     obtain ⟨j,rfl⟩:∃ j',j=j'+1:=⟨j - 1,by exact (qH (jg2 [_,_] 0xfab01f1abab0 na) (jg2 [_,_] 0xf0ab1fab1ab0 (nc (ng fun z2=>nq1 [_] 0xfbabab0 (qQ (ng fun z1=>nq2 [_] 0xfab0abbfbab0 z2 z1) c)))))⟩
     exact yQc (fun O=>qJ (.inl ⟨_,_,_,_,_,rfl,rfl,hI',g',h1,(jl2 [_,_] 0xf0ababab1fab10 h2),(jg2 [_,_,_] 0xfab0a3caab21fa3ca21ab0 h4)⟩)) fun O=>qJ ⟨_,_,_,_,_,rfl,rfl,hI',g',h1,(jl2 [_,_] 0xf0ababab1fab10 h2),(jg2 [_,_,_] 0xfab0a3caab21fa3ca21ab0 h3),(jg2 [_,_,_] 0xfab0a3caab21fa3ca21abab0 h4)⟩
   ·exact qJ (.inr ⟨_,rfl,.inr ⟨e,_,rfl,he⟩⟩)
  ·rintro b st s ⟨lo',i,j,ac,bc,rfl,rfl,hI,g,h1,h2,h3,h4⟩
   exact (False.elim (nq1 [_] 0xf0cab0 (qQ (ng fun z1=>nq1 [_,_] 0xf0ca3ca10 h3) c1)))
  ·simp only [length_range',sa];exact (jg4 [_,_,_,_,_] 0xfa0c0a43f4abab2f3ab1fa3ca21ab0 h1 h2 na)
 clear g hI h1 h2 h3
 rintro b st s (⟨lo,i,j,ac,bc,rfl,rfl,hI,g,h1,h2,h3⟩ | ⟨r,hr,he⟩)
 rotate_left
 ·obtain ⟨r0,b⟩:=b
  dsimp only at hr
  subst hr
  exact qJ ⟨_,rfl,he⟩
 refine qK (kasC_lift (vI ?_))
 refine qK (kasC_mono (Q:=fun b st s=>(X7 fun lo' i j mg gl ac bc=>A7 (b=(none,i+1,j+2,ar it lo'.reverse,mg,ac,bc)) (st=SS κ xs pd gl) (Inv s) (Mh X la lb lo' (i+1) (j+2)) (i < la.length) (j+1 < lb.length) (i+j+3<=n))\/∃ r,b.1=some r/\yXd κ it X Inv Fl xs pd la lb r st s) (kasC_range ?_) ?_)
 rotate_left
 ·rintro b st s (⟨lo,i,j,mg,gl,ac,bc,rfl,rfl,hI,g,h1,h2,h3⟩ | ⟨r,hr,he⟩)
  ·exact qK (kasC_modify (qJ ⟨_,_,_,_,_,rfl,rfl,hI,g,h1,h2,h3⟩))
  ·obtain ⟨r0,b⟩:=b
   dsimp only at hr
   subst hr
   exact qJ ⟨_,rfl,he⟩
 refine yWm (fun n' b st s=>X7 fun lo' i j mg gl ac bc=>A8 (b=(none,i+1,j+2,ar it lo'.reverse,mg,ac,bc)) (st=SS κ xs pd gl) (Inv s) (Mh X la lb lo' (i+1) (j+2)) (i < la.length) (j+1 < lb.length) (i+j+3<=n') (i+j+3<=n)) ?_ ?_ _ _ _ _ ⟨lo,i,j,_,gl,_,_,rfl,rfl,hI,g,h1,h2,?_,h3⟩
 rotate_left
 ·rintro b st s ⟨lo',i,j,mg,gl,ac,bc,rfl,rfl,hI,g,h1,h2,h3,h4⟩
  exact (False.elim (nq1 [_] 0xf0cab0 (qQ (ng fun z1=>nq1 [_,_] 0xf0ca3ca10 h3) c1)))
 ·simp only [length_range',sa];exact (jg4 [_,_,_,_,_] 0xfa0c0a43f4abab2f3ab1fa3ca21ab0 h1 h2 na)
 clear g hI h1 h2 h3
 rintro n' x b st s ⟨lo,i,j,mg,gl,ac,bc,rfl,rfl,hI,g,h1,h2,h3,h4⟩
 extract_lets -underBinder _ _ _ _ _ _ _ _ _ _ _ jp
 show kasC _ _ _ (if mg > 1 then jp () (mg - 1) else jp () mg) _ _ _
 suffices hj:∀ mg,kasC (model prog w) A E (jp () mg) _ (SS κ xs pd gl) s from yQc (fun O=>hj _) fun O=>hj _
 intro mg
 refine qK (kasC_modify ?_)
 refine qK (k_elem (gb (j+1) h2) ?_)
 refine qK (k_gallop (pd:=pd) (gl:=mg) (base:=0) (n:=i+1) (hint:=i) (k:=lb.getD (j+1) 0) (q:=fun i=>la.getD (0+i) 0) hA m.o (fun i hi=>ga _ (jl3 [_,_,_] 0xfab2ab1f0ab2fa10c0 h1 hi)) (fun i hi=>m.na _ (getD_in (jl3 [_,_,_] 0xfab2ab1f0ab2fa10c0 h1 hi))) (m.nb _ (getD_in h2)) hI (fun i hi=>m.pl _ (getD_in (jl3 [_,_,_] 0xfab2ab1f0ab2fa10c0 h1 hi)) _ (getD_in h2)) (jl1 [_] 0xf0ab0 ) (fun f hf i j hij hj=>yQW (m.ha f hf) (jl2 [_,_] 0xf0ab1fa10ca00c hij) (jl3 [_,_,_] 0xfab2ab1f0ab2fa10c0 h1 hj)) (fun at_ s' c hI'=>?_) fun e s' he=>qJ (.inr ⟨_,rfl,.inr ⟨e,_,rfl,he⟩⟩))
 have hk:=c.hi
 have ga':Mh X la lb ((la.drop at_).take (i+1 - at_)++lo) at_ (j+2):=by
  refine Mh.as m.ha (i+1 - at_) (by rwa [show at_+(i+1 - at_)=i+1 by exact (qH (jg2 [_,_,_] 0xfab0a12fa21abab0 (nc (jg2 [_,_] 0xfab01f1abab0 hk))) (jg2 [_,_,_] 0xfa01ab2fab2aba10 na))]) (jg3 [_,_,_,_] 0xfab3a12f0ab3fa21ab0 h1 (nc (jg2 [_,_] 0xfab01f1abab0 hk))) fun f hf x hx=>?_
  have hn:=m.pl _ (getD_in (show at_+x < la.length by exact (jl4 [_,_,_,_,_] 0xfab3a14f4ab2f0ab3fa210 h1 hx (nc (jg2 [_,_] 0xfab01f1abab0 hk))))) _ (getD_in h2)
  exact yQi (m.o f hf) (m.hb f hf) h2 (lt2_tot (by have:=c.f f hf (at_+x) (jg1 [_,_] 0xf0aba10 ) (jl3 [_,_,_,_] 0xfab0a13f3ab2fa21ab0 hx (nc (jg2 [_,_] 0xfab01f1abab0 hk)));simpa only [zero_add] using this) (vB hn))
 have hbw:∀ f,X f->∀ u∈la.take at_,lt2 f u (lb.getD (j+1) 0):=fun f hf u hu=>by
  by_cases e:at_=0
  ·subst e;cases hu
  ·obtain ⟨a',rfl⟩:∃ a',at_=a'+1:=⟨at_ - 1,by exact (qH (jg2 [_,_] 0xfab01f1abab0 na) (jg2 [_,_] 0xf0ab1fab1ab0 (nc (jg2 [_] 0xf0bfbab0 (vP e :)))))⟩
   exact yQi (m.o f hf) (m.ha f hf) (jl3 [_,_,_] 0xfab2ab1f0ab2f10 h1 hk) (by have:=c.t f hf a' (jl1 [_] 0xf0ab0 );simpa only [zero_add] using this) u hu
 clear c
 dsimp -zeta -zetaHave only
 extract_lets -underBinder _ _ jp2
 suffices hj:∀ lo i,Mh X la lb lo (i+1) (j+2)->i < la.length->i+j+3<=n'+1->i+j+3<=n->(∀ f,X f->∀ u∈la.take (i+1),lt2 f u (lb.getD (j+1) 0))->kasC (model prog w) A E (jp2 () (i+1) (ar it lo.reverse)) _ (SS κ xs pd mg) s' by
  show kasC _ _ _ (if i+1 - at_ > 0 then (if (at_ == 0)=true then pure (ForInStep.done (some ((ar it la).extract 0 at_++(ar it lb).extract 0 (j+2)++(ar it lo.reverse++((ar it la).extract at_ (i+1)).reverse).reverse),_)) else jp2 () at_ (ar it lo.reverse++((ar it la).extract at_ (i+1)).reverse)) else jp2 () (i+1) (ar it lo.reverse)) _ _ _
  have ek:ar it lo.reverse++((ar it la).extract at_ (i+1)).reverse=ar it ((la.drop at_).take (i+1 - at_)++lo).reverse:=by rw [yJH,yWD,yQy,List.reverse_append]
  rw [ek]
  refine yQc (fun c=>?_) fun c=>?_
  ·refine yQc (fun c=>qJ (.inr ⟨_,rfl,endA ga' (by simpa only [vG] using c) hI'⟩)) fun c1=>?_
   simp only [vG] at c1
   obtain ⟨a',rfl⟩:∃ a',at_=a'+1:=⟨at_ - 1,by exact (qH (jg2 [_,_] 0xfab01f1abab0 na) (jg2 [_,_] 0xf0ab1fab1ab0 (nc (jg2 [_] 0xf0bfbab0 (vP c1 :)))))⟩
   exact hj _ _ ga' (jl3 [_,_,_] 0xfab2ab1f0ab2f10 h1 hk) (jg3 [_,_,_,_] 0xfab3ab1fab0a3ca23fa3ca21abab0 h3 hk) (jg3 [_,_,_,_] 0xfab3ab1f0a3ca23fa3ca21ab0 h4 hk) hbw
  ·have:at_=i+1:=by exact (qH (jg2 [_,_] 0xfab01f1abab0 hk) (jg3 [_,_,_] 0xfa02ab1f0c2fab1ab0 (qO c :) na))
   subst this
   exact hj _ _ g h1 h3 h4 hbw
 clear hbw ga' hk h1 h3 h4 g
 intro lo i g h1 h3 h4 hbw
 have g':=g.b m.hb h2 hbw
 refine qK (k_elem (gb (j+1) h2) ?_)
 show kasC _ _ _ (if (j+1 == 1)=true then pure (ForInStep.done (some ((ar it lb).extract 0 (j+1)++(ar it la).extract 0 (i+1)++((ar it lo.reverse).push (kas_item it (lb.getD (j+1) 0))).reverse),_)) else _) _ _ _
 rw [yQL]
 refine yQc (fun c=>qJ (.inr ⟨_,rfl,endF g' (by simpa only [vG] using c) hI'⟩)) fun c=>?_
 simp only [vG] at c
 have c9:=c
 clear g
 refine qK (k_elem (ga i h1) ?_)
 refine qK (k_gallop (pd:=pd) (gl:=mg) (base:=0) (n:=j+1) (hint:=j) (k:=la.getD i 0) (q:=fun i=>lb.getD (0+i) 0) hA m.o (fun i hi=>gb _ (jl3 [_,_,_] 0xfab2ab1f0abab2fa10c0 h2 hi)) (fun i hi=>m.nb _ (getD_in (jl3 [_,_,_] 0xfab2ab1f0abab2fa10c0 h2 hi))) (m.na _ (getD_in h1)) hI' (fun x hx=>m.pl _ (getD_in h1) _ (getD_in (jl3 [_,_,_] 0xfab2ab1f0abab2fa10c0 h2 hx))) (jl1 [_] 0xf0ab0 ) (fun f hf i j hij hj=>yQW (m.hb f hf) (jl2 [_,_] 0xf0ab1fa10ca00c hij) (jl3 [_,_,_] 0xfab2ab1f0abab2fa10c0 h2 hj)) (fun at2 s2 c2 hI2=>?_) fun e s' he=>qJ (.inr ⟨_,rfl,.inr ⟨e,_,rfl,he⟩⟩))
 have hk:=c2.hi
 have gb':Mh X la lb ((lb.drop at2).take (j+1 - at2)++(lb.getD (j+1) 0::lo)) (i+1) at2:=by
  refine Mh.bs m.hb (j+1 - at2) (by rwa [show at2+(j+1 - at2)=j+1 by exact (qH (jg2 [_,_,_] 0xfab0a12fa21abab0 (nc (jg2 [_,_] 0xfab01f1abab0 hk))) (jg2 [_,_,_] 0xfa01ab2fab2aba10 na))]) (jg3 [_,_,_,_] 0xfab3a12f0abab3fa21ab0 h2 (nc (jg2 [_,_] 0xfab01f1abab0 hk))) fun f hf x hx=>?_
  have hn:=m.pl _ (getD_in h1) _ (getD_in (show at2+x < lb.length by exact (jl4 [_,_,_,_,_] 0xfab3a14f4ab2f0abab3fa210 h2 hx (nc (jg2 [_,_] 0xfab01f1abab0 hk)))))
  exact yQi (m.o f hf) (m.ha f hf) h1 (lt2_tot (by have:=c2.f f hf (at2+x) (jg1 [_,_] 0xf0aba10 ) (jl3 [_,_,_,_] 0xfab0a13f3ab2fa21ab0 hx (nc (jg2 [_,_] 0xfab01f1abab0 hk)));simpa only [zero_add] using this) (ne_of_gt hn))
 have haw:∀ f,X f->∀ u∈lb.take at2,lt2 f u (la.getD i 0):=fun f hf u hu=>by
  by_cases e:at2=0
  ·subst e;cases hu
  ·obtain ⟨a',rfl⟩:∃ a',at2=a'+1:=⟨at2 - 1,by exact (qH (jg2 [_,_] 0xfab01f1abab0 na) (jg2 [_,_] 0xf0ab1fab1ab0 (nc (jg2 [_] 0xf0bfbab0 (vP e :)))))⟩
   exact yQi (m.o f hf) (m.hb f hf) (jl3 [_,_,_] 0xfab2ab1f0abab2f10 h2 hk) (by have:=c2.t f hf a' (jl1 [_] 0xf0ab0 );simpa only [zero_add] using this) u hu
 clear c2
 dsimp -zeta -zetaHave only
 extract_lets -underBinder _ _ jp3
 suffices hj:∀ lo j,Mh X la lb lo (i+1) (j+2)->j+1 < lb.length->i+j+3<=n'+1->i+j+3<=n->(∀ f,X f->∀ u∈lb.take (j+2),lt2 f u (la.getD i 0))->kasC (model prog w) A E (jp3 () (j+2) (ar it lo.reverse)) _ (SS κ xs pd mg) s2 by
  show kasC _ _ _ (if j+1 - at2 > 0 then (if (at2 == 1)=true then pure (ForInStep.done (some ((ar it lb).extract 0 at2++(ar it la).extract 0 (i+1)++(ar it (lb.getD (j+1) 0::lo).reverse++((ar it lb).extract at2 (j+1)).reverse).reverse),_)) else if (at2 == 0)=true then pure (ForInStep.done (some ((ar it la).extract 0 (i+1)++(ar it lb).extract 0 at2++(ar it (lb.getD (j+1) 0::lo).reverse++((ar it lb).extract at2 (j+1)).reverse).reverse),_)) else jp3 () at2 (ar it (lb.getD (j+1) 0::lo).reverse++((ar it lb).extract at2 (j+1)).reverse)) else jp3 () (j+1) (ar it (lb.getD (j+1) 0::lo).reverse)) _ _ _
  have ek:ar it (lb.getD (j+1) 0::lo).reverse++((ar it lb).extract at2 (j+1)).reverse=ar it ((lb.drop at2).take (j+1 - at2)++(lb.getD (j+1) 0::lo)).reverse:=by rw [yJH,yWD,yQy,List.reverse_append]
  rw [ek]
  refine yQc (fun c=>?_) fun c=>?_
  ·refine yQc (fun c=>qJ (.inr ⟨_,rfl,endF gb' (by simpa only [vG] using c) hI2⟩)) fun c1=>yQc (fun c=>qJ (.inr ⟨_,rfl,endB gb' (by simpa only [vG] using c) hI2⟩)) fun c2=>?_
   simp only [vG] at c1 c2
   obtain ⟨a',rfl⟩:∃ a',at2=a'+2:=⟨at2 - 2,by exact (qH (jg2 [_,_] 0xfa2c01f1aba2c0 na) (ng fun z=>nq2 [_] 0xfbab0f0b (vP c2 :) (qQ (ng fun z2=>nq2 [_,_] 0xf0a2c1fa2c1ab0 z (nc (ng fun z1=>nq2 [_] 0xf2cab0f0abb z2 z1))) c1)))⟩
   exact hj _ _ gb' (jl3 [_,_,_] 0xfab2a2c1f0abab2fab10 h2 hk) (jg3 [_,_,_,_] 0xfab3a2c2fab0a3ca31fa3ca21abab0 h3 hk) (jg3 [_,_,_,_] 0xfab3a2c2f0a3ca31fa3ca21ab0 h4 hk) haw
  ·have:at2=j+1:=by exact (qH (jg2 [_,_] 0xfab01f1abab0 hk) (jg3 [_,_,_] 0xfa02ab1f0c2fab1ab0 (qO c :) na))
   subst this
   obtain ⟨j,rfl⟩:∃ j',j=j'+1:=⟨j - 1,(wL (vP fun q=>c9 (wE Nat.succ q))).symm⟩
   exact hj _ _ g' (jl2 [_,_] 0xf0ababab1fab10 h2) (jg2 [_,_,_] 0xfab0a3caab21fa3ca21abab0 h3) (jg2 [_,_,_] 0xf0a3caab21fa3ca21ab0 h4) haw
 clear haw gb' hk h2 h3 h4 c hbw g'
 intro lo j g h2 h3 h4 haw
 have g':=g.a m.ha h1 haw
 refine qK (k_elem (ga i h1) ?_)
 show kasC _ _ _ (if (i == 0)=true then pure (ForInStep.done (some ((ar it la).extract 0 i++(ar it lb).extract 0 (j+2)++((ar it lo.reverse).push (kas_item it (la.getD i 0))).reverse),_)) else if _ then pure (ForInStep.done (none,i,j+2,(ar it lo.reverse).push (kas_item it (la.getD i 0)),mg,_,_)) else pure (ForInStep.yield (none,i,j+2,(ar it lo.reverse).push (kas_item it (la.getD i 0)),mg,_,_))) _ _ _
 rw [yQL]
 refine yQc (fun c=>qJ (.inr ⟨_,rfl,endA g' (by simpa only [vG] using c) hI2⟩)) fun c=>?_
 simp only [vG] at c
 obtain ⟨i,rfl⟩:∃ i',i=i'+1:=⟨i - 1,by exact (qH (jg2 [_,_] 0xfab01f1abab0 na) (jg2 [_,_] 0xf0ab1fab1ab0 (nc (jg2 [_] 0xf0bfbab0 (vP c :)))))⟩
 exact yQc (fun O=>qJ (.inl ⟨_,_,_,_,_,_,_,rfl,rfl,hI2,g',(jl2 [_,_] 0xf0abab1f10 h1),h2,(jg2 [_,_,_] 0xf0a3ca2ab1fa3ca21ab0 h4)⟩)) fun O=>qJ ⟨_,_,_,_,_,_,_,rfl,rfl,hI2,g',(jl2 [_,_] 0xf0abab1f10 h1),h2,(jg2 [_,_,_] 0xfab0a3ca2ab1fa3ca21ab0 h3),(jg2 [_,_,_] 0xf0a3ca2ab1fa3ca21ab0 h4)⟩
end K_k_mergeHi
theorem k_mergeHi {A E κ it X N Inv Fl la lb xs pd gl Q s}:K_k_mergeHi.zP A E κ it X N Inv Fl la lb xs pd gl Q s:=eps (P:=U15 K_k_mergeHi.zP) K_k_mergeHi.zh (A,E,κ,it,X,N,Inv,Fl,la,lb,xs,pd,gl,Q,s)
theorem kasC_set {M:Model} {A:Around} {E:VS} {σ:Type} {t:σ} {Q:PUnit->σ->Shared->Prop} {st:σ} {s:Shared} (h:Q ⟨⟩ t s):kasC M A E (set t:StateT σ Sem PUnit) Q st s:=by
 unfold kasC;rw [StateT.run_set];exact qI h
theorem yCN {α:Type} {a b c:α}:(#[a,b].setIfInBounds 0 c).eraseIdxIfInBounds (0+1)=#[c]:=by
 simp [Array.eraseIdxIfInBounds]
theorem yWp {k:Nat}:∀ (l:List (Keyed×Nat)) (a:Array Keyed),(l.foldl (fun a (x:Keyed×Nat)=>a.setIfInBounds (k+x.2) x.1) a).size=a.size
 | [],a=>rfl
 | x::l,a=>by rw [foldl_cons,yWp l,Array.size_setIfInBounds]
section
variable {it:Array Keyed}
theorem yXu:∀ (ys:List Keyed) (b:Nat) (a:Array Keyed) (k:Nat),k+b+ys.length<=a.size->
  (ys.zipIdx b).foldl (fun a (p:Keyed×Nat)=>a.setIfInBounds (k+p.2) p.1) a=(a.toList.take (k+b)++ys++a.toList.drop (k+b+ys.length)).toArray
 | [],b,a,k,_=>by simp
 | y::ys,b,a,k,h=>by
  simp only [length_cons] at h
  rw [zipIdx_cons,foldl_cons,yXu ys (b+1) _ k (by rw [Array.size_setIfInBounds];exact (jg2 [_,_,_,_] 0xf0aab3a21fa3aab21ab0 h))]
  congr 1
  have e:(a.setIfInBounds (k+b) y).toList=a.toList.take (k+b)++y::a.toList.drop (k+b+1):=by
   rw [Array.toList_setIfInBounds,List.set_eq_take_append_cons_drop,qN (by simp;exact (jl2 [_,_,_,_] 0xf0aab3a21fa210 h))]
  rw [e]
  have l1:(a.toList.take (k+b)).length=k+b:=by rw [length_take,Array.length_toList];exact (qH (jg2 [_,_,_] 0xfa102f2aba10 (min_le_left _ _)) (jg2 [_,_,_] 0xf0a21fa21ab0 (qD (min_eq_left (jg2 [_,_,_,_] 0xf0aab3a21fa21ab0 h)).symm)))
  have t1:(a.toList.take (k+b)++y::a.toList.drop (k+b+1)).take (k+(b+1))=a.toList.take (k+b)++[y]:=by
   rw [List.take_append,l1,take_of_length_le (jg2 [_,_,_] 0xfa102f2abaab10 (qD l1 :)),show k+(b+1) - (k+b)=1 by exact (qH (jg2 [_,_,_] 0xfaab21aa210f0abb (nc (jg1 [_,_] 0xfa10abaab10 ))) (jg2 [_,_,_] 0xfaa210aab21fbab0 na))];rfl
  have t2:(a.toList.take (k+b)++y::a.toList.drop (k+b+1)).drop (k+(b+1)+ys.length)=a.toList.drop (k+b+(ys.length+1)):=by
   rw [List.drop_append,l1,drop_eq_nil_of_le (jg2 [_,_,_,_] 0xfa103f3aba2aab10 (qD l1 :)),show k+(b+1)+ys.length - (k+b)=ys.length+1 by exact (qH (jg2 [_,_,_,_] 0xfa0aab32aa321f1abab0 (nc (jg1 [_,_,_] 0xfa10aba2aab10 ))) (jg2 [_,_,_,_] 0xfaa320a1aab32fab1ab0 na)),List.drop_succ_cons,List.drop_drop,nil_append]
   congr 1;exact (qH (jg1 [_,_,_] 0xfa2aba10abaab2a10 ) (jg1 [_,_,_] 0xfaab2a10aba2aba10 ))
  rw [t1,t2]
  simp
theorem yBM {l lm:List Nat} {k:Nat} (h:k+lm.length<=l.length):((ar it lm).toList.zipIdx).foldl (fun a (p:Keyed×Nat)=>a.setIfInBounds (k+p.2) p.1) (ar it l)=ar it (l.take k++lm++l.drop (k+lm.length)):=by
 have:=yXu (ar it lm).toList 0 (ar it l) k (by simp [ar];exact (jg2 [_,_,_] 0xf0a21fa21ab0 h))
 rw [this]
 simp [ar,map_take,List.map_drop]
end
namespace K_k_mergeAt
def zP (A:Around) (E:VS) (κ:SortKind) (it:Array Keyed) (X:(Nat->Nat->Bool)->Prop) (N:Nat) (Inv:Shared->Prop) (Fl:VS) (l1 l2:List Nat) (p1 p2 gl:Nat) (Q:Bool->SortSt->Shared->Prop) (s:Shared):Prop:=∀ (hA:yZP prog w A κ it X N Inv Fl) (o:∀ f,X f->SWO f) (hI:Inv s) (h1:∀ f,X f->l1.Pairwise (lt2 f)) (h2:∀ f,X f->l2.Pairwise (lt2 f)) (n1:∀ u∈l1,u < N) (n2:∀ u∈l2,u < N) (pl:∀ u∈l1,∀ v∈l2,u < v) (a0:0 < l1.length) (b0:0 < l2.length) (h:∀ l gl s',yVe X l1 l2 l->Inv s'->Q true (SS κ (ar it l) #[(0,l1.length+l2.length,p1)] gl) s') (hd:∀ st e s',failedOf st=some e->(arrOf st).size=l1.length+l2.length->Fl e s'->Q false st s'),
  kasC (model prog w) A E (mergeAt' 0) Q (SS κ (ar it (l1++l2)) #[(0,l1.length,p1),(l1.length,l2.length,p2)] gl) s
def zc:=ep (U15 zP) ⟨({},fun O O=>True,oneType',#[],fun O=>True,0,fun O=>True,fun O O=>True,[],[],0,0,0,fun O O O=>True,(start default).1)⟩
def zd1:=zc.2.2.2.2.2.2.2.2
def A:=zc.1
def E:=zc.2.1
def κ:=zc.2.2.1
def it:=zc.2.2.2.1
def X:=zc.2.2.2.2.1
def N:=zc.2.2.2.2.2.1
def Inv:=zc.2.2.2.2.2.2.1
def Fl:=zc.2.2.2.2.2.2.2.1
def l1:=zd1.1
def l2:=zd1.2.1
def p1:=zd1.2.2.1
def p2:=zd1.2.2.2.1
def gl:=zd1.2.2.2.2.1
def Q:=zd1.2.2.2.2.2.1
def s:=zd1.2.2.2.2.2.2
theorem zh:zP A E κ it X N Inv Fl l1 l2 p1 p2 gl Q s:=by
 intro hA o hI h1 h2 n1 n2 pl a0 b0 h hd
 have sz:(ar it (l1++l2)).size=l1.length+l2.length:=by rw [yQK,length_append]
 have ga:∀ i,i < l1.length->(ar it (l1++l2))[i]?=some (kas_item it (l1.getD i 0)):=fun i hi=>by
  rw [yVy (by rw [length_append];exact (jl3 [_,_,_] 0xf0ab2f1ab0cf2a10 b0 hi))];simp [qR,List.getElem?_append_left hi]
 have gb:∀ i,i < l2.length->(ar it (l1++l2))[l1.length+i]?=some (kas_item it (l2.getD i 0)):=fun i hi=>by
  rw [yVy (by rw [length_append];exact (jl2 [_,_,_] 0xf1ab2fa20a10 hi))];simp [qR,List.getElem?_append_right]
 refine qK (kasC_get ?_)
 refine qK (kasC_set ?_)
 show kasC _ _ _ _ Q (SortSt.mk' κ (ar it (l1++l2)) ((#[(0,l1.length,p1),(l1.length,l2.length,p2)].setIfInBounds 0 (0,l1.length+l2.length,p1)).eraseIdxIfInBounds (0+1)) gl none) s
 rw [yCN]
 change kasC _ _ _ _ Q (SS κ (ar it (l1++l2)) #[(0,l1.length+l2.length,p1)] gl) s
 have o':=o
 refine qK (k_elem (by have:=gb 0 b0;rwa [Nat.add_zero] at this) ?_)
 refine qK (k_gallop (base:=0) (n:=l1.length) (k:=l2.getD 0 0) (q:=fun i=>l1.getD i 0) hA o (fun i hi=>by rw [zero_add];exact ga i hi) (fun i hi=>n1 _ (getD_in hi)) (n2 _ (getD_in b0)) hI (fun i hi=>pl _ (getD_in hi) _ (getD_in b0)) a0 (fun f hf i j hij hj=>yQW (h1 f hf) hij hj) (fun k s' c hI'=>?_) fun e s' he=>qJ (hd _ e s' rfl sz he))
 have hk:=c.hi
 have sorted:(∀ f,X f->lt2 f (l1.getD (l1.length - 1) 0) (l2.getD 0 0))->yVe X l1 l2 (l1++l2):=fun hl=>⟨.refl _,fun f hf=>vY.mpr ⟨h1 f hf,h2 f hf,fun u hu v hv=>by
  have e1:=yQi (o f hf) (h1 f hf) (i:=l1.length - 1) (jl2 [_,_] 0xf0ab1f10 (nc (jg2 [_] 0xf0ab0cfbab0 a0))) (hl f hf) u (by rw [show l1.length - 1+1=l1.length by exact (qH (jg2 [_,_] 0xf0ab1fab1ab0 (nc (jg2 [_] 0xf0ab0cfbab0 a0))) (jg2 [_,_] 0xfab01f1abab0 na)),List.take_length];exact hu)
  exact yQj (o f hf) (h2 f hf) b0 e1 v (by rw [drop_zero];exact hv)⟩⟩
 show kasC _ _ _ (if (l1.length - k == 0)=true then pure true else _) _ _ _
 refine yQc (fun c1=>qJ (h _ _ _ (sorted fun f hf=>c.t f hf _ (by simp only [vG] at c1;exact (jl4 [_,_,_,_] 0xf3ab1fa023f0c2f10 (qD c1 :) na (nc (jg2 [_] 0xf0ab0cfbab0 a0))))) hI')) fun c1=>?_
 simp only [vG] at c1
 have el:0+k+(l1.length - k) - 1=l1.length - 1:=by exact (qH (ng fun z=>nq4 [_,_,_,_,_] 0xf2a34fa4a30cab1fab02f1ab0 z na (nc (ng fun z1=>nq3 [_,_,_,_] 0xfa3a20c1fbaba3a20cf1ab0 z z1 (vD _ _))) (nc (jg2 [_,_] 0xf01f1ab0 hk))) (jg4 [_,_,_,_,_] 0xf4ab1fa234fab0a3a20cf1ab0 na na (nc (jg2 [_] 0xf0ab0cfbab0 a0))))
 refine qK (k_elem (by show (ar it (l1++l2))[0+k+(l1.length - k) - 1]?=_;rw [el];exact ga (l1.length - 1) (jl2 [_,_] 0xf0ab1f10 (nc (jg2 [_] 0xf0ab0cfbab0 a0)))) ?_)
 refine qK (k_gallop (base:=l1.length) (n:=l2.length) (k:=l1.getD (l1.length - 1) 0) (q:=fun i=>l2.getD i 0) hA o gb (fun i hi=>n2 _ (getD_in hi)) (n1 _ (getD_in (jl2 [_,_] 0xf0ab1f10 (nc (jg2 [_] 0xf0ab0cfbab0 a0))))) hI' (fun i hi=>pl _ (getD_in (jl2 [_,_] 0xf0ab1f10 (nc (jg2 [_] 0xf0ab0cfbab0 a0)))) _ (getD_in hi)) (jl2 [_,_] 0xf0ab1f10 (nc (jg2 [_] 0xf0ab0cfbab0 b0))) (fun f hf i j hij hj=>yQW (h2 f hf) hij hj) (fun nb s2 c2 hI2=>?_) fun e s' he=>qJ (hd _ e s' rfl sz he))
 have hn:=c2.hi
 show kasC _ _ _ (if (nb == 0)=true then pure true else _) _ _ _
 refine yQc (fun c3=>qJ (h _ _ _ (sorted fun f hf=>?_) hI2)) fun c3=>?_
 ·simp only [vG] at c3
  have:=pl _ (getD_in (show l1.length - 1 < l1.length by exact (jl2 [_,_] 0xf0ab1f10 (nc (jg2 [_] 0xf0ab0cfbab0 a0))))) _ (getD_in b0)
  exact lt2_tot (c2.f f hf 0 (jg2 [_] 0xf0c0f0ab0c (qD c3 :)) b0) (ne_of_gt this)
 simp only [vG] at c3
 have ex:(ar it (l1++l2)).extract (0+k) l1.length=ar it (l1.drop k):=by
  rw [yJH,zero_add,List.drop_append_of_le_length hk,List.take_append_of_le_length (by rw [length_drop];exact (jg1 [_] 0xf0ab0 )),take_of_length_le (by rw [length_drop];exact (jg1 [_] 0xf0ab0 ))]
 have ey:(ar it (l1++l2)).extract l1.length (l1.length+nb)=ar it (l2.take nb):=by
  rw [yJH,List.drop_append_of_le_length (vC _),List.drop_length,nil_append,wF]
 have gd:∀ i,(l1.drop k).getD i 0=l1.getD (k+i) 0:=fun i=>by simp [qR]
 have mp:yDM X N (l1.drop k) (l2.take nb):=by
  refine ⟨o,fun f hf=>(h1 f hf).sublist (drop_sublist _ _),fun f hf=>(h2 f hf).sublist (vQ _ _),fun u hu=>n1 u ((drop_sublist _ _).subset hu),fun u hu=>n2 u ((vQ _ _).subset hu),fun u hu v hv=>pl u ((drop_sublist _ _).subset hu) v ((vQ _ _).subset hv),by rw [length_drop];exact (jl2 [_] 0xf0bf0c0 (vP c1 :)),by rw [length_take];exact (jl3 [_,_] 0xf01f1bf0c0 (vP c3 :) (qD (min_eq_left (jg2 [_,_] 0xf01f1ab0 hn)).symm)),fun f hf v hv=>?_,fun f hf v hv=>?_⟩
  ·have e0:(l2.take nb).getD 0 0=l2.getD 0 0:=by rw [qR,List.getElem?_take,qN (jl2 [_] 0xf0bf0c0 (vP c3 :)),<- qR]
   rw [e0]
   have:=pl _ (getD_in (show k < l1.length by exact (nl fun z=>nq1 [_] 0xf0cab0 (qQ (ng fun z2=>nq3 [_,_,_] 0xf0a12f2ab0cf10 z z2 (nc (jg2 [_,_] 0xf01f1ab0 hk))) c1)))) _ (getD_in b0)
   exact yQj (o f hf) (h1 f hf) (by exact (nl fun z=>nq1 [_] 0xf0cab0 (qQ (ng fun z2=>nq3 [_,_,_] 0xf0a12f2ab0cf10 z z2 (nc (jg2 [_,_] 0xf01f1ab0 hk))) c1))) (lt2_tot (c.f f hf k (vC _) (by exact (nl fun z=>nq1 [_] 0xf0cab0 (qQ (ng fun z2=>nq3 [_,_,_] 0xf0a12f2ab0cf10 z z2 (nc (jg2 [_,_] 0xf01f1ab0 hk))) c1)))) (vB this)) v hv
  ·rw [gd,length_drop,show k+(l1.length - k - 1)=l1.length - 1 by rw [<- Nat.add_sub_assoc (vP c1),Nat.add_sub_of_le hk]]
   obtain ⟨nb',rfl⟩:∃ nb',nb=nb'+1:=⟨nb - 1,by exact (qH (jg2 [_,_] 0xfab01f1abab0 na) (jg2 [_,_] 0xf0ab1fab1ab0 (nc (jg2 [_] 0xf0bfbab0 (vP c3 :)))))⟩
   exact yQi (o f hf) (h2 f hf) (jl2 [_,_] 0xf0ab1f10 hn) (c2.t f hf nb' (jl1 [_] 0xf0ab0 )) v hv
 have fin:∀ r st s',yXd κ it X Inv Fl (ar it (l1++l2)) #[(0,l1.length+l2.length,p1)] (l1.drop k) (l2.take nb) r st s'->kasC (model prog w) A E (do
   modify fun s=>SortSt.mk' (kindOf s) (List.foldl (fun a (x:Keyed×Nat)=>a.setIfInBounds (0+k+x.2) x.1) (arrOf s) r.toList.zipIdx) (pendingOf s) (gallopOf s) (failedOf s)
   let s <- get
   pure (failedOf s).isNone) Q st s':=by
  rintro r st s' (⟨lm,gl',rfl,⟨wp,wa⟩,rfl,hI'⟩ | ⟨e,gl',rfl,he⟩)
  ·refine qK (kasC_modify (qK (kasC_get (qJ ?_))))
   have ln:lm.length=(l1.length - k)+nb:=by rw [wp.length_eq,length_append,length_drop,length_take];exact (qH (jg2 [_,_,_] 0xf12fa20aba10 (min_le_left _ _)) (jg2 [_,_,_] 0xf12fa20aba10 (qD (min_eq_left (jg2 [_,_] 0xf01f1ab0 hn)).symm)))
   show Q true (SortSt.mk' κ (List.foldl (fun a (x:Keyed×Nat)=>a.setIfInBounds (0+k+x.2) x.1) (ar it (l1++l2)) (ar it lm).toList.zipIdx) #[(0,l1.length+l2.length,p1)] gl' none) s'
   rw [zero_add,yBM (by rw [length_append];exact (jg4 [_,_,_,_,_,_] 0xf0a25fa453f14fa32aba10 hn (qD ln :) (nc (jg2 [_,_] 0xf01f1ab0 hk))))]
   have e1:(l1++l2).take k=l1.take k:=List.take_append_of_le_length hk
   have e2:(l1++l2).drop (k+lm.length)=l2.drop nb:=by rw [ln,List.drop_append,drop_eq_nil_of_le (jg2 [_,_,_,_] 0xfa013f3abaa210 na),nil_append];congr 1;exact np1 (by assumption)
   rw [e1,e2]
   refine h _ _ _ ⟨?_,fun f hf=>?_⟩ hI'
   ·calc (l1.take k++lm++l2.drop nb).Perm (l1.take k++(l1.drop k++l2.take nb)++l2.drop nb):=(wp.append_left _).append_right _
     _=l1++l2:=by rw [<- vS,wI,vS,wI]
   ·have lo1:∀ u∈l1.take k,∀ v∈l2,lt2 f u v:=fun u hu v hv=>by
     have hk0:0 < k:=(Nat.eq_zero_or_pos k).elim (fun e=>by subst e;cases hu) id
     have e1:=yQi (o f hf) (h1 f hf) (i:=k - 1) (jl3 [_,_,_] 0xf2ab1f02f10 hk (nc (jg2 [_] 0xf0ab0cfbab0 hk0))) (c.t f hf (k - 1) (jl2 [_,_] 0xf0ab1f10 (nc (jg2 [_] 0xf0ab0cfbab0 hk0)))) u (by rw [show k - 1+1=k by exact (qH (jg2 [_,_] 0xf0ab1fab1ab0 (nc (jg2 [_] 0xf0ab0cfbab0 hk0))) (jg2 [_,_] 0xfab01f1abab0 na))];exact hu)
     exact yQj (o f hf) (h2 f hf) b0 e1 v (by rw [drop_zero];exact hv)
    have lo2:∀ u∈l1,∀ v∈l2.drop nb,lt2 f u v:=fun u hu v hv=>by
     by_cases e:nb < l2.length
     ·have hp:=pl _ (getD_in (show l1.length - 1 < l1.length by exact (jl2 [_,_] 0xf0ab1f10 (nc (jg2 [_] 0xf0ab0cfbab0 a0))))) _ (getD_in e)
      have e1:=lt2_tot (c2.f f hf nb (vC _) e) (ne_of_gt hp)
      have e2:=yQi (o f hf) (h1 f hf) (i:=l1.length - 1) (jl2 [_,_] 0xf0ab1f10 (nc (jg2 [_] 0xf0ab0cfbab0 a0))) e1 u (by rw [show l1.length - 1+1=l1.length by exact (qH (jg2 [_,_] 0xf0ab1fab1ab0 (nc (jg2 [_] 0xf0ab0cfbab0 a0))) (jg2 [_,_] 0xfab01f1abab0 na)),List.take_length];exact hu)
      exact yQj (o f hf) (h2 f hf) e e2 v hv
     ·rw [drop_eq_nil_of_le (jg2 [_,_] 0xf01f1ab0 (qO e :))] at hv;cases hv
    have s1:=vY.mp (by rw [wI];exact h1 f hf:(l1.take k++l1.drop k).Pairwise (lt2 f))
    have s2:=vY.mp (by rw [wI];exact h2 f hf:(l2.take nb++l2.drop nb).Pairwise (lt2 f))
    refine vY.mpr ⟨vY.mpr ⟨s1.1,wa f hf,fun u hu v hv=>?_⟩,s2.2.1,fun u hu v hv=>?_⟩
    ·rcases qF.mp (wp.mem_iff.mp hv) with hv | hv
     ·exact s1.2.2 u hu v hv
     ·exact lo1 u hu v ((vQ _ _).subset hv)
    ·rcases qF.mp hu with hu | hu
     ·exact lo1 u hu v ((drop_sublist _ _).subset hv)
     ·rcases qF.mp (wp.mem_iff.mp hu) with hu | hu
      ·exact lo2 u ((drop_sublist _ _).subset hu) v hv
      ·exact s2.2.2 u hu v hv
  ·refine qK (kasC_modify (qK (kasC_get (qJ ?_))))
   refine hd _ e s' rfl ?_ he
   show (List.foldl (fun a (x:Keyed×Nat)=>a.setIfInBounds (0+k+x.2) x.1) (ar it (l1++l2)) r.toList.zipIdx).size=_
   rw [yWp,sz]
 show kasC _ _ _ (if l1.length - k<=nb then mergeLo' ((ar it (l1++l2)).extract (0+k) l1.length) ((ar it (l1++l2)).extract l1.length (l1.length+nb)) >>= _ else mergeHi' ((ar it (l1++l2)).extract (0+k) l1.length) ((ar it (l1++l2)).extract l1.length (l1.length+nb)) >>= _) _ _ _
 rw [ex,ey]
 exact yQc (fun O=>qK (k_mergeLo hA mp hI2 fun r st s' hr=>fin r st s' hr)) fun O=>qK (k_mergeHi hA mp hI2 fun r st s' hr=>fin r st s' hr)
end K_k_mergeAt
theorem yZe {A E κ it X N Inv Fl l1 l2 p1 p2 gl Q s}:K_k_mergeAt.zP A E κ it X N Inv Fl l1 l2 p1 p2 gl Q s:=eps (P:=U15 K_k_mergeAt.zP) K_k_mergeAt.zh (A,E,κ,it,X,N,Inv,Fl,l1,l2,p1,p2,gl,Q,s)
theorem yAc {α:Type} {B C:Array α} {i j:Nat}:(B++C).swapIfInBounds (B.size+i) (B.size+j)=B++C.swapIfInBounds i j:=by
 by_cases hi:i < C.size
 ·by_cases hj:j < C.size
  ·apply Array.ext_getElem?
   intro k
   rw [getElem?_swapIB (by rw [Array.size_append];exact (jl2 [_,_,_] 0xf1ab2fa20a10 hi)) (by rw [Array.size_append];exact (jl2 [_,_,_] 0xf1ab2fa20a10 hj))]
   by_cases hk:k < B.size
   ·rw [qM (by exact (fun zzq=>nq2 [_,_,_] 0xf0ab2f2a10 (qD zzq :) hk)),qM (by exact (fun zzq=>nq2 [_,_,_] 0xf0ab2f2a10 (qD zzq :) hk)),Array.getElem?_append_left hk,Array.getElem?_append_left hk]
   ·obtain ⟨k,rfl⟩:∃ k',k=B.size+k':=⟨k - B.size,by exact (qH (jg2 [_,_,_] 0xfa012f2aba10 na) (jg2 [_,_,_] 0xf0a12fa21ab0 (nc (jg2 [_,_] 0xf01f1ab0 (qO hk :)))))⟩
    have e:∀ (D:Array α) (x:Nat),(B++D)[B.size+x]?=D[x]?:=fun D x=>by rw [Array.getElem?_append_right (jg1 [_,_] 0xf0aba10 ),wF]
    rw [e,e,e,e,getElem?_swapIB hi hj]
    by_cases h1:j=k<;>by_cases h2:i=k<;>simp [h1,h2]
  ·rw [Array.swapIfInBounds_def,Array.swapIfInBounds_def]
   simp [hi,hj]
 ·rw [Array.swapIfInBounds_def,Array.swapIfInBounds_def]
  simp [hi]
theorem yVH {α:Type} {B:Array α} (u v u' v':Nat->Nat):∀ (l:List Nat) (C:Array α),(∀ k∈l,u' k=B.size+u k/\v' k=B.size+v k)->l.foldl (fun a k=>a.swapIfInBounds (u' k) (v' k)) (B++C)=B++l.foldl (fun a k=>a.swapIfInBounds (u k) (v k)) C
 | [],_,_=>rfl
 | k::l,C,h=>by
  rw [foldl_cons,foldl_cons,(h k (.head _)).1,(h k (.head _)).2,yAc]
  exact yVH u v u' v' l _ fun x hx=>h x (.tail _ hx)
theorem yXN {B:Array Keyed} {c:Nat->Keyed} {p:Array Nat} {i j:Nat}:mirror (B++p.map c) (B.size+i) (B.size+j) ((B.size+j - (B.size+i)) / 2)=B++(kas_rev p i j).map c:=by
 unfold mirror kas_rev mirror
 rw [show B.size+j - (B.size+i)=j - i from Nat.add_sub_add_left _ _ _,<- kas_swaps_map]
 refine yVH _ _ _ _ _ _ fun k hk=>⟨Nat.add_assoc _ _ _,?_⟩
 have:=mem_range.mp hk
 rw [Nat.sub_sub,Nat.sub_sub,Nat.add_comm 1 k];exact Nat.add_sub_assoc (qZ (qZ this (Nat.div_le_self _ _)) (vD _ _)) _
theorem yYa {B:Array Keyed} {c:Nat->Keyed} {p:Array Nat} {k l:Nat}:bubble (B++p.map c) (B.size+k) (B.size+k - (B.size+l))=B++(bubble p k (k - l)).map c:=by
 unfold bubble
 rw [show B.size+k - (B.size+l)=k - l from Nat.add_sub_add_left _ _ _,<- kas_swaps_map]
 refine yVH _ _ _ _ _ _ fun x hx=>?_
 have:=mem_range.mp hx
 have:=qZ this (vD _ _)
 exact ⟨Nat.add_sub_assoc (wM this) _,by rw [Nat.sub_sub,Nat.sub_sub];exact Nat.add_sub_assoc this _⟩
section
variable {M:Model} {A:Around} {E:VS} {σ:Type}
theorem yCJ {β:Type} {f:Nat->β->StateT σ Sem (ForInStep β)} {Q:β->σ->Shared->Prop} {a z:Nat} (I:Nat->β->σ->Shared->Prop)
  (step:∀ k b st s,a<=k->k < z->I k b st s->kasC M A E (f k b) (fun r st' s'=>match r with | .done b'=>Q b' st' s' | .yield b'=>I (k+1) b' st' s') st s):
  ∀(m:Nat) (x:Nat) (b:β) (st:σ) (s:Shared),a<=x->x+m=z->(∀ b st s,I z b st s->Q b st s)->I x b st s->kasC M A E (forIn (List.range' x m) b f) Q st s
 | 0,x,b,st,s,_,hz,fin,h=>kasC_nil (fin b st s (by rw [<- hz];exact h))
 | m+1,x,b,st,s,hx,hz,fin,h=>kasC_cons (qL (step x b st s hx (jl2 [_,_,_] 0xf0aab21f10 (qD hz :)) h) (fun r s' hr=>by
   obtain ⟨r,st'⟩:=r
   cases r with
   | done b'=>exact hr
   | yield b'=>exact yCJ I step m (x+1) b' st' s' (jg2 [_,_] 0xf01f1abab0 hx) (by exact (qH (jg2 [_,_,_] 0xf0aab21fa2ab1ab0 (qD hz :)) (jg2 [_,_,_] 0xfaab102f2aba1ab0 (qD (hz).symm :)))) fin hr) fun _ _ e=>e)
end
section
variable {A:Around} {E:VS} {κ:SortKind} {c:Nat->Keyed} {X:(Nat->Nat->Bool)->Prop} {n:Nat} {Inv:Shared->Prop} {Fl:VS} {B:Array Keyed} {pd:Array (Nat×Nat×Nat)} {gl:Nat}
def yCe (prog:Program) (w:World) (A:Around) (κ:SortKind) (c:Nat->Keyed) (X:(Nat->Nat->Bool)->Prop) (n:Nat) (Inv:Shared->Prop) (Fl:VS):Prop:=
 ∀i j (C:Bool->Shared->Prop) s,i < n->j < n->Inv s->(∀ b s',(∀ f,X f->f i j=b)->Inv s'->C b s')->wpAny (model prog w) A (keyLt' κ (c i).1 (c j).1) C Fl s
theorem k_ltAt (hA:yCe prog w A κ c X n Inv Fl) {p:Array Nat} {i j:Nat} {Q:Option Bool->SortSt->Shared->Prop} {s:Shared} (hi:i < p.size) (hj:j < p.size) (bi:g p i < n) (bj:g p j < n) (hI:Inv s)
  (h:∀ b s',(∀ f,X f->f (g p i) (g p j)=b)->Inv s'->Q (some b) (SS κ (B++p.map c) pd gl) s') (hd:∀ e s',Fl e s'->Q none (SortSt.mk' κ (B++p.map c) pd gl (some e)) s'):
  kasC (model prog w) A E (ltAt' (B.size+i) (B.size+j)) Q (SS κ (B++p.map c) pd gl) s:=by
 have ge:∀ x,x < p.size->(B++p.map c)[B.size+x]?=some (c (g p x)):=fun x hx=>by
  rw [Array.getElem?_append_right (jg1 [_,_] 0xf0aba10 ),wF]
  simp [g,Array.getD_eq_getD_getElem?,hx]
 rw [ltAt'_eq]
 refine qK (kasC_get ?_)
 refine qK (k_elem (ge i hi) (qK (k_elem (ge j hj) ?_)))
 rw [lt'_eq]
 refine qK (kasC_get ?_)
 refine qK (kasC_lift (wpAny_attempt (qL (hA _ _ (fun b s'=>(∀ f,X f->f (g p i) (g p j)=b)/\Inv s') s bi bj hI fun b s' h1 h2=>⟨h1,h2⟩) (fun b s' hc=>?_) fun e s' he=>?_)))
 ·exact qJ (h b s' hc.1 hc.2)
 ·exact qK (kasC_modify (qJ (hd e s' he)))
theorem k_rev {p:Array Nat} {i j:Nat} {Q:Unit->SortSt->Shared->Prop} {s:Shared} (h:Q () (SS κ (B++(kas_rev p i j).map c) pd gl) s):kasC (model prog w) A E (reverseSlice' (B.size+i) (B.size+j)) Q (SS κ (B++p.map c) pd gl) s:=by
 rw [reverseSlice'_eq]
 refine kasC_modify ?_
 have e:setArr (SS κ (B++p.map c) pd gl) (mirror (arrOf (SS κ (B++p.map c) pd gl)) (B.size+i) (B.size+j) ((B.size+j - (B.size+i)) / 2))=SS κ (B++(kas_rev p i j).map c) pd gl:=by
  show SortSt.mk' κ (mirror (B++p.map c) (B.size+i) (B.size+j) ((B.size+j - (B.size+i)) / 2)) pd gl none=_
  rw [yXN];rfl
 rw [e];exact h
theorem k_move {p:Array Nat} {k l:Nat} {Q:Unit->SortSt->Shared->Prop} {s:Shared} (h:Q () (SS κ (B++(bubble p k (k - l)).map c) pd gl) s):kasC (model prog w) A E (moveDown' (B.size+k) (B.size+l)) Q (SS κ (B++p.map c) pd gl) s:=by
 rw [moveDown'_eq]
 refine kasC_modify ?_
 have e:setArr (SS κ (B++p.map c) pd gl) (bubble (arrOf (SS κ (B++p.map c) pd gl)) (B.size+k) (B.size+k - (B.size+l)))=SS κ (B++(bubble p k (k - l)).map c) pd gl:=by
  show SortSt.mk' κ (bubble (B++p.map c) (B.size+k) (B.size+k - (B.size+l))) pd gl none=_
  rw [yYa];rfl
 rw [e];exact h
theorem up_lt {f:Nat->Nat->Bool} {p:Array Nat} {m:Nat} (u:yJc f n p m) (hm:m<=n) {i:Nat} (hi:i < n):g p i < n:=by
 by_cases e:i < m
 ·have:=u.low i e;exact (jl3 [_,_,_] 0xf2ab1f02f10 hm this)
 ·rw [u.rest i (jg2 [_,_] 0xf01f1ab0 (qO e :)) hi];exact hi
theorem k_asc (hA:yCe prog w A κ c X n Inv Fl) (o:∀ f,X f->SWO f) (ne:∃ f,X f) {p:Array Nat} {a:Nat} {Q:Option (Option Nat)×Nat->SortSt->Shared->Prop} {s:Shared} (hI:Inv s) (h1:1<=a) (han:a<=n) (u:∀ f,X f->yJc f n p a)
  (h:∀ m s',a<=m->m<=n->(∀ f,X f->yJc f n p m)->(m=n\/∀ f,X f->f (g p m) (g p (m - 1))=true)->Inv s'->Q (none,m) (SS κ (B++p.map c) pd gl) s')
  (hd:∀ m e s',Fl e s'->Q (some none,m) (SortSt.mk' κ (B++p.map c) pd gl (some e)) s'):
  kasC (model prog w) A E (forIn (List.range' a (n - a)) ((none,a):Option (Option Nat)×Nat) fun _ r=>ltAt' (B.size+r.2) (B.size+r.2 - 1) >>= fun x=>match x with
   | some smaller=>if smaller=true then pure (ForInStep.done (none,r.2)) else pure (ForInStep.yield (none,r.2+1))
   | _=>pure (ForInStep.done (some none,r.2))) Q (SS κ (B++p.map c) pd gl) s:=by
 obtain ⟨f0,hf0⟩:=ne
 refine yWm (fun k b st s=>∃ m,A6 (b=(none,m+1)) (st=SS κ (B++p.map c) pd gl) (Inv s) (a<=m+1) (m+1+k=n) (∀ f,X f->yJc f n p (m+1))) ?_ ?_ _ _ _ _ ⟨a - 1,by rw [show a - 1+1=a by exact (qH (jg2 [_,_] 0xf0ab1fab1ab0 (nc (jg2 [_] 0xf0bfbab0 h1))) (jg2 [_,_] 0xfab01f1abab0 na))],rfl,hI,(jg2 [_,_] 0xfab01f1abab0 na),?_,by rwa [show a - 1+1=a by exact (qH (jg2 [_,_] 0xf0ab1fab1ab0 (nc (jg2 [_] 0xf0bfbab0 h1))) (jg2 [_,_] 0xfab01f1abab0 na))]⟩
 ·rintro k x b st s ⟨m,rfl,rfl,hI,h1,h2,u⟩
  have hs:=(u f0 hf0).size
  refine qK (k_ltAt (i:=m+1) (j:=m) hA (jl3 [_,_,_,_] 0xf03f3aab2ab1fab10 (qD h2 :) (qD (hs).symm :)) (jl3 [_,_,_,_] 0xf03f3aab2ab1f10 (qD h2 :) (qD (hs).symm :)) (up_lt (u f0 hf0) (jg2 [_,_,_] 0xf0aab2ab1fab1ab0 (qD h2 :)) (jl2 [_,_,_] 0xf0aab2ab1fab10 (qD h2 :))) (up_lt (u f0 hf0) (jg2 [_,_,_] 0xf0aab2ab1fab1ab0 (qD h2 :)) (jl2 [_,_,_] 0xf0aab2ab1f10 (qD h2 :))) hI (fun b s' hb hI'=>?_) fun e s' he=>qJ (hd _ e s' he))
  cases b with
  | true=>exact qJ (h _ _ h1 (Nat.le.intro h2) u (.inr hb) hI')
  | false=>exact qJ ⟨m+1,rfl,rfl,hI',(jg2 [_,_] 0xfab01f1ababab0 h1),by exact (qH (jg2 [_,_,_] 0xf0aab2ab1fa2abab1ab0 (qD h2 :)) (jg2 [_,_,_] 0xfaab1ab02f2aba1abab0 (qD (h2).symm :))),fun f hf=>(u f hf).next (o f hf) (jg1 [_] 0xfbabab0 ) (jl2 [_,_,_] 0xf0aab2ab1fab10 (qD h2 :)) (hb f hf)⟩
 ·rintro b st s ⟨m,rfl,rfl,hI,h1,h2,u⟩
  exact h _ _ h1 (jg2 [_,_] 0xf0a0cab1fab1ab0 (qD h2 :)) u (.inl (by exact (qH (jg2 [_,_] 0xf0a0cab1fab1ab0 (qD h2 :)) (jg2 [_,_] 0xfa0cab01f1abab0 (qD (h2).symm :))))) hI
 ·simp only [length_range'];exact (qH (jg3 [_,_,_,_] 0xf0a32f3ab1fa2ab1ab0 (nc (jg2 [_] 0xf0bfbab0 h1)) (nc (jg2 [_,_] 0xf01f1ab0 han))) (jg3 [_,_,_,_] 0xfa312fab03f2aba1ab0 na na))
end
namespace K_k_count
def zP (A:Around) (E:VS) (κ:SortKind) (X:(Nat->Nat->Bool)->Prop) (n:Nat) (Inv:Shared->Prop) (Fl:VS) (B:Array Keyed) (pd:Array (Nat×Nat×Nat)) (gl:Nat) (Q:Option Nat->SortSt->Shared->Prop) (s:Shared):Prop:=∀ (c:Nat->Keyed) (hA:yCe prog w A κ c X n Inv Fl) (o:∀ f,X f->SWO f) (ne:∃ f,X f) (p:Array Nat) (hI:Inv s) (hn:1<=n) (u:∀ f,X f->yJc f n p 1) (h:∀ m (p':Array Nat) s',1<=m->m<=n->(∀ f,X f->yJc f n p' m)->Inv s'->Q (some m) (SS κ (B++p'.map c) pd gl) s') (hd:∀ (p':Array Nat) e s',p'.size=n->Fl e s'->Q none (SortSt.mk' κ (B++p'.map c) pd gl (some e)) s'),
  kasC (model prog w) A E (countRun' B.size n) Q (SS κ (B++p.map c) pd gl) s
def zc:=ep (U12 zP) ⟨({},fun O O=>True,oneType',fun O=>True,0,fun O=>True,fun O O=>True,#[],#[],0,fun O O O=>True,(start default).1)⟩
def zd1:=zc.2.2.2.2.2.2.2.2
def A:=zc.1
def E:=zc.2.1
def κ:=zc.2.2.1
def X:=zc.2.2.2.1
def n:=zc.2.2.2.2.1
def Inv:=zc.2.2.2.2.2.1
def Fl:=zc.2.2.2.2.2.2.1
def B:=zc.2.2.2.2.2.2.2.1
noncomputable def pd:=zd1.1
def gl:=zd1.2.1
def Q:=zd1.2.2.1
def s:=zd1.2.2.2
theorem zh:zP A E κ X n Inv Fl B pd gl Q s:=by
 intro c hA o ne p hI hn u h hd
 have ne':=ne
 obtain ⟨f0,hf0⟩:=ne'
 refine qK (kasC_range (k_asc hA o ne hI (vC _) hn u (fun m s' h1 h2 u' hm hI'=>?_) fun m e s' he=>qJ (hd p e s' (u f0 hf0).size he)))
 clear u
 dsimp -zeta -zetaHave only
 refine yQc (fun c=>qJ (h _ _ _ h1 h2 u' hI')) fun c1=>?_
 simp only [vG] at c1
 have hm':=hm.resolve_left c1
 clear hm
 extract_lets -underBinder jp
 suffices hj:∀ p' s',(∀ f,X f->yWF f n p' (m+1) 0)->Inv s'->kasC (model prog w) A E (jp ()) Q (SS κ (B++p'.map c) pd gl) s' by
  refine yQc (fun c=>?_) fun c=>?_
  ·obtain ⟨k,rfl⟩:∃ k,m=k+1:=⟨m - 1,by exact (qH (jg2 [_,_] 0xfab01f1abab0 na) (jg2 [_,_] 0xf0ab1fab1ab0 (nc (jg2 [_] 0xf0bfbab0 h1))))⟩
   have hs:=(u' f0 hf0).size
   refine qK (k_ltAt (i:=0) (j:=k) hA (jl3 [_,_] 0xf01f1bf0c0 hn (qD (hs).symm :)) (jl3 [_,_,_] 0xf02f2ab1f10 h2 (qD (hs).symm :)) (up_lt (u' f0 hf0) (jg2 [_,_] 0xf0ab1fab1ab0 h2) (jl2 [_] 0xf0bf0c0 hn)) (up_lt (u' f0 hf0) (jg2 [_,_] 0xf0ab1fab1ab0 h2) (jl2 [_,_] 0xf0ab1f10 h2)) hI' (fun b s2 hb hI2=>?_) fun e s' he=>qJ (hd p e s' hs he))
   cases b with
   | true=>exact qJ (h _ _ _ h1 h2 u' hI2)
   | false=>exact qK (k_rev (i:=0) (j:=k+1) (hj _ _ (fun f hf=>(u' f hf).falls (o f hf) c (jl2 [_,_] 0xf0abab1fab10 (qQ (jg2 [_,_] 0xf0ab1fab1ab0 h2) c1)) (hm' f hf) (hb f hf)) hI2))
  ·have:m=1:=by exact (qH (jg2 [_] 0xfb0f0abb (qO c :)) (jg2 [_] 0xf0bfbab0 h1))
   subst this
   exact hj _ _ (fun f hf=>(u' f hf).falls1 (o f hf) (jl2 [_] 0xf0abbfb0 (qQ (jg2 [_] 0xf0bfbab0 hn) c1)) (hm' f hf)) hI'
 clear hm' u' hI' p
 intro p s d hI
 refine qK (kasC_lift (vI ?_))
 refine qK (kasC_mono (Q:=fun b st s=>(∃ p':Array Nat,X2 fun k q=>A5 (b=(none,k+1,q)) (st=SS κ (B++p'.map c) pd gl) (Inv s) (k+1<=n) (∀ f,X f->yWF f n p' (k+1) q))\/∃ p':Array Nat,X2 fun e x=>A4 (b=(some none,x)) (st=SortSt.mk' κ (B++p'.map c) pd gl (some e)) (p'.size=n) (Fl e s)) (kasC_range ?_) ?_)
 ·refine yWm (fun t b st s=>∃ p':Array Nat,X2 fun k q=>A5 (b=(none,k+1,q)) (st=SS κ (B++p'.map c) pd gl) (Inv s) (k+1+t=n) (∀ f,X f->yWF f n p' (k+1) q)) ?_ ?_ _ _ _ _ ⟨p,m,0,rfl,rfl,hI,?_,d⟩
  ·clear d hI s p
   rintro t x b st s ⟨p,k,q,rfl,rfl,hI,ht,d⟩
   have hs:=(d f0 hf0).size
   have lt:∀ i,i < n->g p i < n:=fun i hi=>by
    by_cases e:i < k+1
    ·have:=(d f0 hf0).low i e;exact (jl3 [_,_,_,_] 0xfab2ab1f0aab3ab2f10 (qD ht :) this)
    ·rw [(d f0 hf0).rest i (jg2 [_,_] 0xf0ab1fab1ab0 (qO e :)) hi];exact hi
   refine qK (k_ltAt (i:=k+1) (j:=k) hA (jl3 [_,_,_,_] 0xf03f3aab2ab1fab10 (qD ht :) (qD (hs).symm :)) (jl3 [_,_,_,_] 0xf03f3aab2ab1f10 (qD ht :) (qD (hs).symm :)) (lt _ (jl2 [_,_,_] 0xf0aab2ab1fab10 (qD ht :))) (lt _ (jl2 [_,_,_] 0xf0aab2ab1f10 (qD ht :))) hI (fun b s2 hb hI2=>?_) fun e s' he=>qJ (.inr ⟨p,e,_,rfl,rfl,hs,he⟩))
   cases b with
   | true=>
    have d':=fun f hf=>(d f hf).lt (o f hf) (jl2 [_,_,_] 0xf0aab2ab1fab10 (qD ht :)) (hb f hf)
    show kasC _ _ _ (if q > 0 then reverseSlice' (B.size+(k+1) - (q+1)) (B.size+(k+1)) >>= fun O=>pure (ForInStep.yield (none,k+1+1,0)) else pure (ForInStep.yield (none,k+1+1,0))) _ _ _
    have hle:=(d f0 hf0).le
    refine yQc (fun c=>?_) fun c=>?_
    ·simp only [qN c] at d'
     rw [show B.size+(k+1) - (q+1)=B.size+(k+1 - (q+1)) by exact (qH (jg3 [_,_,_,_,_] 0xfaab30aab42faab41ab3f2aba10 na (nc (jg2 [_,_,_] 0xfab1ab2fab2abaab10 hle))) (jg3 [_,_,_,_,_] 0xfab3aab42faab40aab31fa21ab0 na (nc (jg2 [_,_] 0xfab0ab1fab1abab0 hle))))]
     exact qK (k_rev (qJ ⟨_,k+1,0,rfl,rfl,hI2,by exact (qH (jg2 [_,_,_] 0xf0aab2ab1fa2abab1ab0 (qD ht :)) (jg2 [_,_,_] 0xfaab1ab02f2aba1abab0 (qD (ht).symm :))),d'⟩))
    ·simp only [qM c] at d'
     exact qJ ⟨_,k+1,0,rfl,rfl,hI2,by exact (qH (jg2 [_,_,_] 0xf0aab2ab1fa2abab1ab0 (qD ht :)) (jg2 [_,_,_] 0xfaab1ab02f2aba1abab0 (qD (ht).symm :))),d'⟩
   | false=>
    refine qK (k_ltAt (i:=k) (j:=k+1) hA (jl3 [_,_,_,_] 0xf03f3aab2ab1f10 (qD ht :) (qD (hs).symm :)) (jl3 [_,_,_,_] 0xf03f3aab2ab1fab10 (qD ht :) (qD (hs).symm :)) (lt _ (jl2 [_,_,_] 0xf0aab2ab1f10 (qD ht :))) (lt _ (jl2 [_,_,_] 0xf0aab2ab1fab10 (qD ht :))) hI2 (fun b2 s3 hb2 hI3=>?_) fun e s' he=>qJ (.inr ⟨p,e,_,rfl,rfl,hs,he⟩))
    cases b2 with
    | true=>exact qJ (.inl ⟨p,k,q,rfl,rfl,hI3,(jg2 [_,_,_] 0xf0aab2ab1fab1ab0 (qD ht :)),d⟩)
    | false=>exact qJ ⟨p,k+1,q+1,rfl,rfl,hI3,by exact (qH (jg2 [_,_,_] 0xf0aab2ab1fa2abab1ab0 (qD ht :)) (jg2 [_,_,_] 0xfaab1ab02f2aba1abab0 (qD (ht).symm :))),fun f hf=>(d f hf).eq (o f hf) (jl2 [_,_,_] 0xf0aab2ab1fab10 (qD ht :)) (hb f hf) (hb2 f hf)⟩
  ·rintro b st s ⟨p,k,q,rfl,rfl,hI,ht,d⟩
   exact .inl ⟨p,k,q,rfl,rfl,hI,(jg2 [_,_] 0xf0a0cab1fab1ab0 (qD ht :)),d⟩
  ·simp only [length_range'];exact (qH (jg2 [_,_,_] 0xf0aab12fa2ab1ab0 (nc (jg2 [_,_] 0xf0ab1fab1ab0 (qQ (jg2 [_,_] 0xf01f1ab0 h2) c1)))) (jg2 [_,_,_] 0xfaab012f2aba1ab0 na))
 clear d hI s p
 rintro b st s (⟨p,k,q,rfl,rfl,hI,hk,d⟩ | ⟨p,e,x,rfl,rfl,hs,he⟩)
 rotate_left
 ·exact qJ (hd _ _ _ hs he)
 have hle:=(d f0 hf0).le
 have d':=fun f hf=>(d f hf).done (o f hf) hk
 dsimp only
 refine yQc (fun c=>?_) fun c=>?_
 ·simp only [qN c] at d'
  rw [show B.size+(k+1) - (q+1)=B.size+(k+1 - (q+1)) by exact (qH (jg3 [_,_,_,_,_] 0xfaab30aab42faab41ab3f2aba10 na (nc (jg2 [_,_,_] 0xfab1ab2fab2abaab10 hle))) (jg3 [_,_,_,_,_] 0xfab3aab42faab40aab31fa21ab0 na (nc (jg2 [_,_] 0xfab0ab1fab1abab0 hle))))]
  refine qK (k_rev (qK (k_rev (i:=0) (j:=k+1) ?_)))
  exact qK (kasC_range (k_asc hA o ne hI (jg1 [_] 0xfbabab0 ) hk d' (fun m s' h1 h2 u' hm hI'=>qJ (h _ _ _ (jg2 [_,_] 0xf0ab1fbab0 h1) h2 u' hI')) fun m e s' he=>qJ (hd _ e s' (d' f0 hf0).size he)))
 ·simp only [qM c] at d'
  refine qK (k_rev (i:=0) (j:=k+1) ?_)
  exact qK (kasC_range (k_asc hA o ne hI (jg1 [_] 0xfbabab0 ) hk d' (fun m s' h1 h2 u' hm hI'=>qJ (h _ _ _ (jg2 [_,_] 0xf0ab1fbab0 h1) h2 u' hI')) fun m e s' he=>qJ (hd _ e s' (d' f0 hf0).size he)))
end K_k_count
section
variable {A:Around} {E:VS} {κ:SortKind} {c:Nat->Keyed} {X:(Nat->Nat->Bool)->Prop} {n:Nat} {Inv:Shared->Prop} {Fl:VS} {B:Array Keyed} {pd:Array (Nat×Nat×Nat)} {gl:Nat}
theorem yBJ (hA:yCe prog w A κ c X n Inv Fl) (o:∀ f,X f->SWO f) (ne:∃ f,X f) {p:Array Nat} {Q:Option Nat->SortSt->Shared->Prop} {s:Shared} (hI:Inv s) (hn:1<=n) (u:∀ f,X f->yJc f n p 1)
  (h:∀ m (p':Array Nat) s',1<=m->m<=n->(∀ f,X f->yJc f n p' m)->Inv s'->Q (some m) (SS κ (B++p'.map c) pd gl) s')
  (hd:∀ (p':Array Nat) e s',p'.size=n->Fl e s'->Q none (SortSt.mk' κ (B++p'.map c) pd gl (some e)) s'):
  kasC (model prog w) A E (countRun' B.size n) Q (SS κ (B++p.map c) pd gl) s:=
 eps (P:=U12 K_k_count.zP) K_k_count.zh (A,E,κ,X,n,Inv,Fl,B,pd,gl,Q,s) c hA o ne p hI hn u h hd
end
namespace K_k_binary
def zP (A:Around) (E:VS) (κ:SortKind) (X:(Nat->Nat->Bool)->Prop) (n:Nat) (Inv:Shared->Prop) (Fl:VS) (B:Array Keyed) (pd:Array (Nat×Nat×Nat)) (gl nn ok:Nat) (Q:Bool->SortSt->Shared->Prop) (s:Shared):Prop:=∀ (c:Nat->Keyed) (hA:yCe prog w A κ c X n Inv Fl) (o:∀ f,X f->SWO f) (ne:∃ f,X f) (p:Array Nat) (hI:Inv s) (h1:1<=ok) (h2:ok<=nn) (hn:nn<=n) (u:∀ f,X f->yJc f n p ok) (h:∀ (p':Array Nat) s',(∀ f,X f->yJc f n p' nn)->Inv s'->Q true (SS κ (B++p'.map c) pd gl) s') (hd:∀ (p':Array Nat) e s',p'.size=n->Fl e s'->Q false (SortSt.mk' κ (B++p'.map c) pd gl (some e)) s'),
  kasC (model prog w) A E (binarySort' B.size nn ok) Q (SS κ (B++p.map c) pd gl) s
def zc:=ep (U14 zP) ⟨({},fun O O=>True,oneType',fun O=>True,0,fun O=>True,fun O O=>True,#[],#[],0,0,0,fun O O O=>True,(start default).1)⟩
def zd1:=zc.2.2.2.2.2.2.2.2
def A:=zc.1
def κ:=zc.2.2.1
def X:=zc.2.2.2.1
def n:=zc.2.2.2.2.1
def Inv:=zc.2.2.2.2.2.1
def Fl:=zc.2.2.2.2.2.2.1
def B:=zc.2.2.2.2.2.2.2.1
noncomputable def pd:=zd1.1
def gl:=zd1.2.1
def nn:=zd1.2.2.1
def ok:=zd1.2.2.2.1
def Q:=zd1.2.2.2.2.1
def s:=zd1.2.2.2.2.2
theorem zh:zP A zc.2.1 κ X n Inv Fl B pd gl nn ok Q s:=by
 intro c hA o ne p hI h1 h2 hn u h hd
 obtain ⟨f0,hf0⟩:=ne
 refine qK (kasC_mono (Q:=fun b st s=>(∃ p':Array Nat,A4 (b=(none,())) (st=SS κ (B++p'.map c) pd gl) (Inv s) (∀ f,X f->yJc f n p' nn))\/∃ p':Array Nat,∃ e,A4 (b=(some false,())) (st=SortSt.mk' κ (B++p'.map c) pd gl (some e)) (p'.size=n) (Fl e s)) (kasC_range ?_) ?_)
 rotate_left
 ·rintro b st s (⟨p',rfl,rfl,hI,u⟩ | ⟨p',e,rfl,rfl,hs,he⟩)
  ·exact qJ (h _ _ u hI)
  ·exact qJ (hd _ _ _ hs he)
 have em:max ok 1=ok:=Nat.max_eq_left h1
 rw [em]
 refine yCJ (fun k b st s=>∃ p':Array Nat,A4 (b=(none,())) (st=SS κ (B++p'.map c) pd gl) (Inv s) (∀ f,X f->yJc f n p' k)) (a:=ok) (z:=nn) ?_ _ _ _ _ _ (vC _) (by exact (qH (jg2 [_,_,_] 0xf0a12fa21ab0 (nc (jg2 [_,_] 0xf01f1ab0 h2))) (jg2 [_,_,_] 0xfa012f2aba10 na))) ?_ ⟨p,rfl,rfl,hI,u⟩
 rotate_left
 ·rintro b st s ⟨p',rfl,rfl,hI,u⟩
  exact .inl ⟨p',rfl,rfl,hI,u⟩
 clear u hI p
 rintro k b st s hk1 hk2 ⟨p,rfl,rfl,hI,u⟩
 have hs:=(u f0 hf0).size
 have lt:∀ i,i < n->g p i < n:=fun i hi=>up_lt (u f0 hf0) (jg3 [_,_,_] 0xf2ab1f02f1ab0 hn hk2) hi
 refine qK (kasC_mono (Q:=fun b st s=>(∃ l,∃ r,A6 (b=(none,l,r)) (st=SS κ (B++p.map c) pd gl) (Inv s) (l<=k) ((∀ f,X f->∀ i,i < l->f (g p k) (g p i)=false)) (∀ f,X f->∀ i,l<=i->i < k->f (g p k) (g p i)=true))\/X2 fun e l=>∃ r,A3 (b=(some false,l,r)) (st=SortSt.mk' κ (B++p.map c) pd gl (some e)) (Fl e s)) (kasC_range ?_) ?_)
 rotate_left
 ·rintro b st s (⟨l,r,rfl,rfl,hI,hl,a1,a2⟩ | ⟨e,l,r,rfl,rfl,he⟩)
  ·exact qK (k_move (qJ ⟨_,rfl,rfl,hI,fun f hf=>(u f hf).put (o f hf) (jl3 [_,_,_] 0xf2ab1f02f10 hn hk2) hl (a1 f hf) (a2 f hf)⟩))
  ·exact qJ (.inr ⟨p,e,rfl,rfl,hs,he⟩)
 refine yWm (fun t b st s=>X2 fun l r=>A8 (b=(none,l,r)) (st=SS κ (B++p.map c) pd gl) (Inv s) (l<=r) (r<=k) (r - l<=t) ((∀ f,X f->∀ i,i < l->f (g p k) (g p i)=false)) (∀ f,X f->∀ i,r<=i->i < k->f (g p k) (g p i)=true)) ?_ ?_ _ _ _ _ ⟨0,k,rfl,rfl,hI,(jg1 [_] 0xf0cab0 ),(jg1 [_] 0xf0ab0 ),?_,fun f hf i hi=>absurd hi (Nat.not_lt_zero _),fun f hf i hi hi'=>absurd hi' (vX.mpr hi)⟩
 ·clear hI s
  rintro t x b st s ⟨l,r,rfl,rfl,hI,h1,h2,h3,a1,a2⟩
  dsimp -zeta -zetaHave only
  refine yQc (fun c=>qJ (.inl ⟨l,r,rfl,rfl,hI,(jg3 [_,_,_] 0xf02f21f1ab0 h1 h2),a1,fun f hf i hi=>a2 f hf i (jg3 [_,_,_] 0xf02f21f1ab0 c hi)⟩)) fun c=>?_
  refine qK (k_ltAt (i:=k) (j:=(l+r) / 2) hA (jl4 [_,_,_,_] 0xf03f2ab1f32f10 hn hk2 (qD (hs).symm :)) (jl7 [_,_,_,_,_,_,_] 0xfa652e1f462cf65f032cf2ab42cf322cf102c hn hk2 (qD (hs).symm :) h1 h2 (vE _ 2)) (lt _ (jl3 [_,_,_] 0xf2ab1f02f10 hn hk2)) (lt _ (jl6 [_,_,_,_,_,_] 0xfa542e1f352cf54f2ab32cf022cf102c hn hk2 h1 h2 (vE _ 2))) hI (fun b s2 hb hI2=>?_) fun e s' he=>qJ (.inr ⟨e,_,_,rfl,rfl,he⟩))
  cases b with
  | true=>
   refine qJ ⟨l,(l+r) / 2,rfl,rfl,hI2,(jg3 [_,_,_] 0xfa2c2e0aba21f21f1ab02c h1 nw2),(jg4 [_,_,_,_] 0xfa322e1f032cf32f1ab02c h1 h2 (vE _ 2)),(jg6 [_,_,_,_,_,_] 0xf5a312cfa432e5fa3242cf4ab3fab022cf1ab02c h3 (vA c :) na (vE _ 2) (nc (jg3 [_,_,_] 0xfa2c2e0aba21f21f1ab02c h1 nw2))),a1,fun f hf i hi hik=>?_⟩
   by_cases e:i=(l+r) / 2
   ·rw [e];exact hb f hf
   ·exact (o f hf).lt_le (hb f hf) (lt2_not (o f hf) ((u f hf).asc _ i (by exact (nl fun z=>nq2 [_,_] 0xf0ab1f10 hi (qQ (ng fun z1=>nq2 [_,_] 0xf0ab1f10 z z1) e))) hik))
  | false=>
   refine qJ ⟨(l+r) / 2+1,r,rfl,rfl,hI2,(jg3 [_,_,_] 0xfa022e1f0ab2fab1ab02c (vA c :) (vE _ 2)),(jg2 [_,_] 0xf01f1ab0 h2),(jg5 [_,_,_,_,_,_] 0xf3aab512cfa2c2e5aba34fa423fab022cf1ab02c h3 na nw2 (nc (jg3 [_,_,_] 0xfa022e1f0ab2fab1ab02c (vA c :) (vE _ 2)))),fun f hf i hi=>?_,a2⟩
   by_cases e:i=(l+r) / 2
   ·rw [e];exact hb f hf
   ·exact (o f hf).ntr _ _ _ (hb f hf) (lt2_not (o f hf) ((u f hf).asc i _ (jl2 [_,_] 0xf0ab1f10 (qQ (jg2 [_,_] 0xfab0ab1f1ab0 hi) e)) (jl4 [_,_,_,_] 0xfa232e1f2ab3f022cf102c h2 (vA c :) (vE _ 2))))
 ·rintro b st s ⟨l,r,rfl,rfl,hI,h1,h2,h3,a1,a2⟩
  exact .inl ⟨l,r,rfl,rfl,hI,(jg3 [_,_,_] 0xf02f21f1ab0 h1 h2),a1,fun f hf i hi=>a2 f hf i (jg4 [_,_,_,_] 0xfa321f03f0c2f1ab0 h3 hi na)⟩
 ·simp only [length_range'];exact (jg1 [_] 0xf0ab0 )
end K_k_binary
section
variable {A:Around} {E:VS} {κ:SortKind} {c:Nat->Keyed} {X:(Nat->Nat->Bool)->Prop} {n:Nat} {Inv:Shared->Prop} {Fl:VS} {B:Array Keyed} {pd:Array (Nat×Nat×Nat)} {gl:Nat}
theorem yAv (hA:yCe prog w A κ c X n Inv Fl) (o:∀ f,X f->SWO f) (ne:∃ f,X f) {p:Array Nat} {nn ok:Nat} {Q:Bool->SortSt->Shared->Prop} {s:Shared} (hI:Inv s) (h1:1<=ok) (h2:ok<=nn) (hn:nn<=n) (u:∀ f,X f->yJc f n p ok)
  (h:∀ (p':Array Nat) s',(∀ f,X f->yJc f n p' nn)->Inv s'->Q true (SS κ (B++p'.map c) pd gl) s')
  (hd:∀ (p':Array Nat) e s',p'.size=n->Fl e s'->Q false (SortSt.mk' κ (B++p'.map c) pd gl (some e)) s'):
  kasC (model prog w) A E (binarySort' B.size nn ok) Q (SS κ (B++p.map c) pd gl) s:=
 eps (P:=U14 K_k_binary.zP) K_k_binary.zh (A,E,κ,X,n,Inv,Fl,B,pd,gl,nn,ok,Q,s) c hA o ne p hI h1 h2 hn u h hd
end
section
variable {M:Model} {A:Around} {E:VS} {σ:Type}
theorem yDA {β:Type} {f:Nat->β->StateT σ Sem (ForInStep β)} {Q:β->σ->Shared->Prop} (I:Nat->β->σ->Shared->Prop)
  (step:∀ n x b st s (QQ:ForInStep β->σ->Shared->Prop),I (n+1) b st s->(∀ b st s,Q b st s->QQ (.done b) st s)->(∀ b st s,I n b st s->QQ (.yield b) st s)->kasC M A E (f x b) QQ st s)
  (fin:∀ b st s,I 0 b st s->Q b st s) (l:List Nat) (b:β) (st:σ) (s:Shared) (h:I l.length b st s):kasC M A E (forIn l b f) Q st s:=
 yWm I (fun n x b st s h=>step n x b st s _ h (fun _ _ _ h=>h) fun _ _ _ h=>h) fin l b st s h
end
section
variable {A:Around} {E:VS} {κ:SortKind} {it:Array Keyed} {X:(Nat->Nat->Bool)->Prop} {N:Nat} {Inv:Shared->Prop} {Fl:VS}
def XS (X:(Nat->Nat->Bool)->Prop) (lo:Nat):(Nat->Nat->Bool)->Prop:=fun f'=>∃ f,X f/\f'=fun i j=>f (lo+i) (lo+j)
theorem XS.swo (o:∀ f,X f->SWO f) {lo:Nat}:∀ f,XS X lo f->SWO f:=by
 rintro f ⟨f,hf,rfl⟩
 exact ⟨fun a b=>(o f hf).asym _ _,fun a b c=>(o f hf).ntr _ _ _⟩
theorem XS.ask (hA:yZP prog w A κ it X N Inv Fl) {lo n:Nat} (hn:lo+n<=N):yCe prog w A κ (fun i=>kas_item it (lo+i)) (XS X lo) n Inv Fl:=fun i j C s hi hj hI h=>
 hA _ _ C s (jl3 [_,_,_,_] 0xf3ab2f0a31fa210 hn hi) (jl3 [_,_,_,_] 0xf3ab2f0a31fa210 hn hj) hI fun b s' hb hI'=>h b s' (by rintro f ⟨f,hf,rfl⟩;exact hb f hf) hI'
theorem yJP {l:List Nat} {p:Array Nat} {lo:Nat}:ar it l++p.map (fun i=>kas_item it (lo+i))=ar it (l++p.toList.map (lo+·)):=by
 apply Array.toList_inj.mp;simp [ar]
theorem yVU {lo n:Nat}:List.range' lo n=(List.range n).toArray.toList.map (lo+·):=by
 simp [List.range'_eq_map_range]
theorem yZY {f:Nat->Nat->Bool} {n:Nat} (h:1<=n):yJc f n (List.range n).toArray 1:=by
 have gr:∀ k,k < n->g (List.range n).toArray k=k:=fun k hk=>by
  show (List.toArray (List.range n)).getD k 0=k
  simp [Array.getD_eq_getD_getElem?,hk]
 exact ⟨by simp,.refl _,fun i j h1 h2=>by exact (False.elim (nq2 [_,_] 0xfbab1f1ab0 h1 h2)),fun i hi=>by rw [gr i (jl3 [_,_] 0xfbab1f0bf10 h hi)];exact hi,fun k _ hk=>gr k hk⟩
theorem k_count2 (hA:yZP prog w A κ it X N Inv Fl) (o:∀ f,X f->SWO f) (ne:∃ f,X f) {l:List Nat} {lo n:Nat} (hl:l.length=lo) (hN:lo+n<=N) (hn:1<=n) {pd:Array (Nat×Nat×Nat)} {gl:Nat} {Q:Option Nat->SortSt->Shared->Prop} {s:Shared} (hI:Inv s)
  (h:∀ m (p':Array Nat) s',1<=m->m<=n->(∀ f,XS X lo f->yJc f n p' m)->Inv s'->Q (some m) (SS κ (ar it (l++p'.toList.map (lo+·))) pd gl) s')
  (hd:∀ st e s',failedOf st=some e->(arrOf st).size=lo+n->Fl e s'->Q none st s'):
  kasC (model prog w) A E (countRun' lo n) Q (SS κ (ar it (l++List.range' lo n)) pd gl) s:=by
 have sz:(ar it l).size=lo:=yQK.trans hl
 obtain ⟨f0,hf0⟩:=ne
 have:=yBJ (E:=E) (B:=ar it l) (pd:=pd) (gl:=gl) (Q:=Q) (s:=s) (p:=(List.range n).toArray) (XS.ask hA hN) (XS.swo o) ⟨_,f0,hf0,rfl⟩ hI hn (fun f hf=>yZY hn) (fun m p' s' h1 h2 u hI'=>by rw [yJP];exact h m p' s' h1 h2 u hI') (fun p' e s' hs he=>hd _ e s' rfl (by show (ar it l++p'.map _).size=_;rw [Array.size_append,Array.size_map,sz,hs]) he)
 rw [yJP,sz,<- yVU] at this
 exact this
theorem k_binary2 (hA:yZP prog w A κ it X N Inv Fl) (o:∀ f,X f->SWO f) (ne:∃ f,X f) {l:List Nat} {lo n nn ok:Nat} {p:Array Nat} (hl:l.length=lo) (hN:lo+n<=N) (h1:1<=ok) (h2:ok<=nn) (hn:nn<=n) (u:∀ f,XS X lo f->yJc f n p ok) {pd:Array (Nat×Nat×Nat)} {gl:Nat} {Q:Bool->SortSt->Shared->Prop} {s:Shared} (hI:Inv s)
  (h:∀ (p':Array Nat) s',(∀ f,XS X lo f->yJc f n p' nn)->Inv s'->Q true (SS κ (ar it (l++p'.toList.map (lo+·))) pd gl) s')
  (hd:∀ st e s',failedOf st=some e->(arrOf st).size=lo+n->Fl e s'->Q false st s'):
  kasC (model prog w) A E (binarySort' lo nn ok) Q (SS κ (ar it (l++p.toList.map (lo+·))) pd gl) s:=by
 have sz:(ar it l).size=lo:=yQK.trans hl
 obtain ⟨f0,hf0⟩:=ne
 have:=yAv (E:=E) (B:=ar it l) (pd:=pd) (gl:=gl) (Q:=Q) (s:=s) (p:=p) (XS.ask hA hN) (XS.swo o) ⟨_,f0,hf0,rfl⟩ hI h1 h2 hn u (fun p' s' u hI'=>by rw [yJP];exact h p' s' u hI') (fun p' e s' hs he=>hd _ e s' rfl (by show (ar it l++p'.map _).size=_;rw [Array.size_append,Array.size_map,sz,hs]) he)
 rw [yJP,sz] at this
 exact this
theorem yYy {lo n m:Nat} {p:Array Nat} (ne:∃ f,X f) (u:∀ f,XS X lo f->yJc f n p m) (hm:m<=n):∃ r:List Nat,A5 (r.length=m) (p.toList.map (lo+·)=r++List.range' (lo+m) (n - m)) ((∀ x∈r,lo<=x/\x < lo+m)) ((∀ f,X f->r.Pairwise (lt2 f))) (r.Perm (List.range' lo m)):=by
 obtain ⟨f0,hf0⟩:=ne
 have u0:=u _ ⟨f0,hf0,rfl⟩
 have gi:∀ k (hk:k < p.toList.length),p.toList[k]=g p k:=fun k hk=>by
  show _=p.getD k 0
  have hk':k < p.size:=by simpa using hk
  simp [Array.getD_eq_getD_getElem?,hk']
 have hs:p.toList.length=n:=by rw [Array.length_toList];exact u0.size
 have e1:p.toList.map (lo+·)=(p.toList.take m).map (lo+·)++List.range' (lo+m) (n - m):=by
  conv=>lhs;rw [<- wI m p.toList,List.map_append]
  congr 1
  apply ext_getElem
  ·simp [hs]
  ·intro i h1 h2
   simp only [length_map,length_drop,hs] at h1
   rw [getElem_map,List.getElem_drop,gi,u0.rest _ (jg1 [_,_] 0xf0aba10 ) (jl3 [_,_,_,_] 0xf0a13f3ab2fa210 h1 (nc (jg2 [_,_] 0xf01f1ab0 hm))),List.getElem_range']
   exact (qH (jg1 [_,_,_] 0xfaa210aba1e2a10 ) (jg1 [_,_,_] 0xfa1e2a10abaa210 ))
 refine ⟨(p.toList.take m).map (lo+·),by simp [hs];exact (qH (jg2 [_,_] 0xf01f1ab0 (min_le_left _ _)) (jg2 [_,_] 0xf01f1ab0 (qD (min_eq_left (jg2 [_,_] 0xf01f1ab0 hm)).symm))),e1,fun x hx=>?_,fun f hf=>?_,?_⟩
 ·obtain ⟨y,hy,rfl⟩:=wB.mp hx
  obtain ⟨i,hi,rfl⟩:=getElem_of_mem hy
  rw [getElem_take,gi]
  have:i < m:=by simp [hs] at hi;exact (jl3 [_,_,_] 0xf02f2ab1f10 hi (min_le_left _ _))
  have:=u0.low i this
  exact (⟨jg1 [_,_] 0xf0aba10 ,jl2 [_,_,_] 0xf1ab2fa20a10 this⟩)
 ·rw [pairwise_map,pairwise_iff_getElem]
  intro i j hi hj hij
  have hj':j < m:=by simp [hs] at hj;exact (jl3 [_,_,_] 0xf02f2ab1f10 hj (min_le_left _ _))
  rw [getElem_take,getElem_take,gi,gi]
  exact ((u _ ⟨f,hf,rfl⟩).asc i j hij hj').imp id fun z=>⟨z.1,Nat.add_lt_add_left z.2 lo⟩
 ·have pp:(p.toList.map (lo+·)).Perm (List.range' lo n):=by
   rw [yVU]
   have:=Array.perm_iff_toList_perm.mp u0.perm
   exact this.map _
  rw [e1] at pp
  have e2:List.range' lo n=List.range' lo m++List.range' (lo+m) (n - m):=by
   rw [List.range'_append_1,show m+(n - m)=n by exact (qH (jg2 [_,_,_] 0xf0a12fa21ab0 (nc (jg2 [_,_] 0xf01f1ab0 hm))) (jg2 [_,_,_] 0xfa012f2aba10 na))]
  rw [e2] at pp
  exact (List.perm_append_right_iff _).mp pp
theorem yYO {N:Nat} (h2:2<=N) (h:N < 128):N<=2 * minRun' N N 0/\minRun' N N 0<=N:=by
 obtain ⟨k,rfl⟩:∃ k,N=k+2:=⟨N - 2,by exact (qH (jg2 [_,_] 0xfa2c01f1aba2c0 na) (jg2 [_,_] 0xf0a2c1fa2c1ab0 (nc (jg2 [_] 0xf02cf2cab0 h2))))⟩
 have e:minRun' (k+2) (k+2) 0=if k+2 < 64 then k+2+0 else if (k+2) / 2 < 64 then (k+2) / 2+max 0 ((k+2) % 2) else minRun' k ((k+2) / 2 / 2) (max (max 0 ((k+2) % 2)) ((k+2) / 2 % 2)):=rfl
 rw [e]
 split
 ·exact (⟨jg2 [_] 0xfa2c02cfa2c0ab2ea0ca2c0 h2,jg1 [_] 0xfa0ca2c0aba2c0 ⟩)
 ·rw [qN (jl3 [_,_] 0xfa2c12e0f0000080daba2c1f00000040d2c h (vE _ 2))];exact np5 _
structure Rn (X:(Nat->Nat->Bool)->Prop) (lo m:Nat) (r:List Nat):Prop where
 len:r.length=m
 bd:∀ x∈r,lo<=x/\x < lo+m
 asc:∀ f,X f->r.Pairwise (lt2 f)
 perm:r.Perm (List.range' lo m)
end
namespace K_k_runs
def zP (A:Around) (E:VS) (κ:SortKind) (it:Array Keyed) (X:(Nat->Nat->Bool)->Prop) (N:Nat) (Inv:Shared->Prop) (Fl:VS) (gl:Nat) (Q:Unit->SortSt->Shared->Prop) (s:Shared):Prop:=∀ (hA:yZP prog w A κ it X N Inv Fl) (o:∀ f,X f->SWO f) (ne:∃ f,X f) (h2:2<=N) (h128:N < 128) (hI:Inv s) (h:∀ l pd gl s',l.Perm (List.range N)->(∀ f,X f->l.Pairwise (lt2 f))->Inv s'->Q () (SS κ (ar it l) pd gl) s') (hd:∀ st e s',failedOf st=some e->(arrOf st).size=N->Fl e s'->Q () st s'),
  kasC (model prog w) A E sortRuns' Q (SS κ (ar it (List.range N)) #[] gl) s
def zc:=ep (U11 zP) ⟨({},fun O O=>True,oneType',#[],fun O=>True,0,fun O=>True,fun O O=>True,0,fun O O O=>True,(start default).1)⟩
def A:=zc.1
def E:=zc.2.1
def κ:=zc.2.2.1
def it:=zc.2.2.2.1
def X:=zc.2.2.2.2.1
def N:=zc.2.2.2.2.2.1
def Inv:=zc.2.2.2.2.2.2.1
def Fl:=zc.2.2.2.2.2.2.2.1
def gl:=zc.2.2.2.2.2.2.2.2.1
def Q:=zc.2.2.2.2.2.2.2.2.2.1
def s:=zc.2.2.2.2.2.2.2.2.2.2
theorem zh:zP A E κ it X N Inv Fl gl Q s:=by
 intro hA o ne h2 h128 hI h hd
 have sz:(ar it (List.range N)).size=N:=by rw [yQK,length_range]
 obtain ⟨mr1,mr2⟩:=yYO h2 h128
 refine qK (kasC_get ?_)
 rw [show (arrOf (SS κ (ar it (List.range N)) #[] gl)).size=N from sz]
 refine qK (kasC_mono (Q:=fun b st s=>(X2 fun l1 gl=>A4 (b=(none,N)) (st=SS κ (ar it l1) #[(0,N,0)] gl) (Inv s) (Rn X 0 N l1))\/(X6 fun l1 l2 n1 n2 pw gl=>A8 (b=(none,N)) (st=SS κ (ar it (l1++l2)) #[(0,n1,pw),(n1,n2,0)] gl) (Inv s) (Rn X 0 n1 l1) (Rn X n1 n2 l2) (n1+n2=N) (0 < n1) (0 < n2))\/X2 fun e x=>A4 (b=(some (),x)) (failedOf st=some e) ((arrOf st).size=N) (Fl e s)) (kasC_range ?_) ?_)
 ·refine yDA (fun t b st s=>(b=(none,0)/\st=SS κ (ar it (List.range N)) #[] gl/\Inv s/\N<=t)\/(X2 fun l1 n1=>A8 (b=(none,n1)) (st=SS κ (ar it (l1++List.range' n1 (N - n1))) #[(0,n1,0)] gl) (Inv s) (Rn X 0 n1 l1) (n1<=N) (0 < n1) (N<=2 * n1) (1<=t))\/(X6 fun l1 l2 n1 n2 pw gl=>A8 (b=(none,N)) (st=SS κ (ar it (l1++l2)) #[(0,n1,pw),(n1,n2,0)] gl) (Inv s) (Rn X 0 n1 l1) (Rn X n1 n2 l2) (n1+n2=N) (0 < n1) (0 < n2))) ?_ ?_ _ _ _ _ (.inl ⟨rfl,rfl,hI,by simp only [length_range'];exact (jg2 [_,_] 0xfa0c01f1ab0 na)⟩)
  rotate_left
  ·rintro b st s (⟨rfl,rfl,hI,ht⟩ | ⟨l1,n1,rfl,rfl,hI,r1,a1,a2,a3,ht⟩ | g)
   ·exact (False.elim (nq2 [_] 0xf0c0f02c h2 ht))
   ·exact (False.elim (nq1 [] 0xf0cb ht))
   ·exact .inr (.inl g)
  clear hI
  rintro t x b st s QQ (⟨rfl,rfl,hI,ht⟩ | ⟨l1,n1,rfl,rfl,hI,r1,a1,a2,a3,ht⟩ | ⟨l1,l2,n1,n2,pw,gl,rfl,rfl,hI,g0,g1,g2,g3,g4⟩) dn yl
  ·-- the first run
   refine yQc (fun c=>absurd c (by show ¬ 0 >= N;exact (fun zzq=>nq2 [_] 0xf02cf0c0 zzq h2))) fun c=>?_
   have e0:ar it (List.range N)=ar it ([]++List.range' 0 N):=by rw [nil_append,List.range_eq_range']
   rw [e0]
   have fl:∀ st e s',failedOf st=some e->(arrOf st).size=0+N->Fl e s'->(arrOf st).size=N:=fun st e s' _ hs _=>by rw [hs,zero_add]
   refine qK (k_count2 (l:=[]) (lo:=0) (n:=N) hA o ne rfl (jg1 [_] 0xfa00cab0 ) (jg2 [_] 0xf02cfbab0 h2) hI (fun m p' s' m1 m2 u hI'=>?_) fun st e s' hf hs he=>qJ (dn _ _ _ (.inr (.inr ⟨e,_,rfl,hf,fl st e s' hf hs he,he⟩))))
   dsimp -zeta -zetaHave only
   extract_lets -underBinder _ jp
   suffices hj:∀ r m s',Rn X 0 m r->0 < m->m<=N->N<=2 * m->Inv s'->kasC (model prog w) A E (jp () m) QQ (SS κ (ar it (r++List.range' m (N - m))) #[] gl) s' by
    have fin:∀ m (p':Array Nat) s',m<=N->0 < m->N<=2 * m->(∀ f,XS X 0 f->yJc f N p' m)->Inv s'->kasC (model prog w) A E (jp () m) QQ (SS κ (ar it ([]++p'.toList.map (0+·))) #[] gl) s':=fun m p' s' q1 q2 q3 u hI=>by
     obtain ⟨r,r1,r2,r3,r4,r5⟩:=yYy ne u q1
     rw [r2,nil_append,zero_add]
     exact hj r m s' ⟨r1,r3,r4,r5⟩ q2 q1 q3 hI
    refine yQc (fun c=>?_) fun c=>fin m p' s' m2 m1 (qZ mr1 (Nat.mul_le_mul_left 2 (qO c))) u hI'
    refine qK (kasC_lift (vI ?_))
    have ef:min (N - 0) (minRun' N N 0)=minRun' N N 0:=by rw [Nat.sub_zero];exact min_eq_right mr2
    have c':m < minRun' N N 0:=c
    show kasC _ _ _ (binarySort' 0 (min (N - 0) (minRun' N N 0)) m >>= fun b=>if (!b)=true then pure (ForInStep.done (some (),0)) else jp () (min (N - 0) (minRun' N N 0))) _ _ _
    rw [ef]
    refine qK (k_binary2 (l:=[]) (lo:=0) (n:=N) hA o ne rfl (jg1 [_] 0xfa00cab0 ) m1 (wM c') mr2 u hI' (fun p' s' u hI'=>?_) fun st e s' hf hs he=>qJ (dn _ _ _ (.inr (.inr ⟨e,_,rfl,hf,fl st e s' hf hs he,he⟩))))
    exact fin _ _ _ mr2 (jl3 [_,_] 0xf2e01f12cf0c02c h2 mr1) mr1 u hI'
   clear u hI' m1 m2
   intro r m s' hr q1 q2 q3 hI'
   refine qK (kasC_get (qK (kasC_modify (qJ (yl _ _ _ (.inr (.inl ⟨r,m,?_,rfl,hI',hr,q2,q1,q3,(jg3 [_,_] 0xfab01f12cfbab0 h2 ht)⟩)))))))
   show (none,0+m)=(none,m)
   rw [zero_add]
  ·-- the second run
   refine yQc (fun c=>qJ (dn _ _ _ (.inl ⟨l1,gl,?_,?_,hI,?_⟩))) fun c=>?_
   ·show (none,n1)=(none,N)
    have:N<=n1:=c
    rw [qH a1 this]
   ·have:N<=n1:=c
    have e:n1=N:=qH a1 this
    subst e
    rw [Nat.sub_self,List.range'_zero,append_nil]
   ·have:N<=n1:=c
    have e:n1=N:=qH a1 this
    subst e;exact r1
   have c':n1 < N:=vA c
   have fl:∀ st e s',failedOf st=some e->(arrOf st).size=n1+(N - n1)->Fl e s'->(arrOf st).size=N:=fun st e s' _ hs _=>by rw [hs];exact Nat.add_sub_cancel' (wM c')
   refine qK (k_count2 (l:=l1) (lo:=n1) (n:=N - n1) hA o ne r1.len (qD (Nat.add_sub_cancel' a1)) (jg3 [_,_,_] 0xfa102f2ab1fbab0 (vA c :) na) hI (fun m p' s' m1 m2 u hI'=>?_) fun st e s' hf hs he=>qJ (dn _ _ _ (.inr (.inr ⟨e,_,rfl,hf,fl st e s' hf hs he,he⟩))))
   dsimp -zeta -zetaHave only
   extract_lets -underBinder _ jp
   suffices hj:∀ r s',Rn X n1 (N - n1) r->Inv s'->kasC (model prog w) A E (jp () (N - n1)) QQ (SS κ (ar it (l1++r)) #[(0,n1,0)] gl) s' by
    have fin:∀ (p':Array Nat) s',(∀ f,XS X n1 f->yJc f (N - n1) p' (N - n1))->Inv s'->kasC (model prog w) A E (jp () (N - n1)) QQ (SS κ (ar it (l1++p'.toList.map (n1+·))) #[(0,n1,0)] gl) s':=fun p' s' u hI=>by
     obtain ⟨r,r1,r2,r3,r4,r5⟩:=yYy ne u (vC _)
     rw [r2,Nat.sub_self,List.range'_zero,append_nil]
     exact hj r s' ⟨r1,r3,r4,r5⟩ hI
    refine yQc (fun c=>?_) fun c=>?_
    ·refine qK (kasC_lift (vI ?_))
     have ef:min (N - n1) (minRun' N N 0)=N - n1:=min_eq_left (jg4 [_,_,_,_] 0xf2a312cf2e32f2e02f1ab02c mr1 a3 (nc (jg2 [_,_] 0xf01f1ab0 a1)))
     show kasC _ _ _ (binarySort' n1 (min (N - n1) (minRun' N N 0)) m >>= fun b=>if (!b)=true then pure (ForInStep.done (some (),n1)) else jp () (min (N - n1) (minRun' N N 0))) _ _ _
     rw [ef]
     refine qK (k_binary2 (l:=l1) (lo:=n1) (n:=N - n1) hA o ne r1.len (qD (Nat.add_sub_cancel' a1)) m1 m2 (vC _) u hI' (fun p' s' u hI'=>?_) fun st e s' hf hs he=>qJ (dn _ _ _ (.inr (.inr ⟨e,_,rfl,hf,fl st e s' hf hs he,he⟩))))
     exact fin _ _ u hI'
    ·have e:m=N - n1:=np11 mr1 (by assumption) (by assumption) c
     subst e
     exact fin _ _ u hI'
   clear u hI' m1 m2 hI
   intro r s' hr hI
   refine qK (kasC_get ?_)
   refine qK (kasC_mono (Q:=fun b st s=>b=(none,())/\st=SS κ (ar it (l1++r)) #[(0,n1,0)] gl/\Inv s) (kasC_range ?_) ?_)
   ·refine yWm (fun t b st s=>b=(none,())/\st=SS κ (ar it (l1++r)) #[(0,n1,0)] gl/\Inv s) ?_ ?_ _ _ _ _ ⟨rfl,rfl,hI⟩
    ·rintro t x b st s ⟨rfl,rfl,hI⟩
     exact qK (kasC_get (qJ ⟨rfl,rfl,hI⟩))
    ·rintro b st s ⟨rfl,rfl,hI⟩
     exact ⟨rfl,rfl,hI⟩
   ·rintro b st s ⟨rfl,rfl,hI⟩
    refine qK (kasC_modify (qK (kasC_modify (qJ (yl _ _ _ (.inr (.inr ⟨l1,r,n1,N - n1,_,gl,?_,rfl,hI,r1,hr,Nat.add_sub_cancel' (wM c'),a2,(jl3 [_,_,_] 0xfa102f2ab1f0c0 (vA c :) na)⟩)))))))
    show (none,n1+(N - n1))=(none,N)
    rw [show n1+(N - n1)=N from Nat.add_sub_cancel' (wM c')]
  ·exact yQc (fun c=>qJ (dn _ _ _ (.inr (.inl ⟨l1,l2,n1,n2,pw,gl,rfl,rfl,hI,g0,g1,g2,g3,g4⟩)))) fun c=>absurd (vC N) c
 ·clear hI
  rintro b st s (⟨l1,gl,rfl,rfl,hI,r1⟩ | ⟨l1,l2,n1,n2,pw,gl,rfl,rfl,hI,r1,r2,hn,p1,p2⟩ | ⟨e,x,rfl,hf,hs,he⟩)
  ·refine qK (kasC_mono (Q:=fun b st s=>b=(none,())/\st=SS κ (ar it l1) #[(0,N,0)] gl/\Inv s) (kasC_range ?_) ?_)
   ·refine yWm (fun t b st s=>b=(none,())/\st=SS κ (ar it l1) #[(0,N,0)] gl/\Inv s) ?_ ?_ _ _ _ _ ⟨rfl,rfl,hI⟩
    ·rintro t x b st s ⟨rfl,rfl,hI⟩
     exact qK (kasC_get (qJ ⟨rfl,rfl,hI⟩))
    ·rintro b st s ⟨rfl,rfl,hI⟩
     exact ⟨rfl,rfl,hI⟩
   ·rintro b st s ⟨rfl,rfl,hI⟩
    exact qJ (h _ _ _ _ (by rw [List.range_eq_range'];exact r1.perm) r1.asc hI)
  ·refine qK (kasC_mono (Q:=fun b st s=>(X2 fun l gl=>A4 (b=(none,())) (st=SS κ (ar it l) #[(0,n1+n2,pw)] gl) (Inv s) (yVe X l1 l2 l))\/∃ e,A4 (b=(some (),())) (failedOf st=some e) ((arrOf st).size=N) (Fl e s)) (kasC_range ?_) ?_)
   ·refine yWm (fun t b st s=>(b=(none,())/\st=SS κ (ar it (l1++l2)) #[(0,n1,pw),(n1,n2,0)] gl/\Inv s/\2<=t)\/(X2 fun l gl=>A4 (b=(none,())) (st=SS κ (ar it l) #[(0,n1+n2,pw)] gl) (Inv s) (yVe X l1 l2 l))) ?_ ?_ _ _ _ _ (.inl ⟨rfl,rfl,hI,by simp only [length_range'];exact (jg3 [_,_] 0xfa0c01f12cf2cab0 h2 na)⟩)
    ·clear hI s
     rintro t x b st s (⟨rfl,rfl,hI,ht⟩ | ⟨l,gl,rfl,rfl,hI,w⟩)
     ·refine qK (kasC_get (qK ?_))
      show kasC _ _ _ (mergeAt' 0) _ _ _
      have e1:=r1.len
      have e2:=r2.len
      subst e1 e2
      refine yZe hA o hI r1.asc r2.asc (fun u hu=>by have:=(r1.bd u hu).2;exact (jl4 [_,_,_,_] 0xfa30cab1f0a23f2ab0cf10 p2 (qD hn :) this)) (fun u hu=>by have:=(r2.bd u hu).2;exact (jl3 [_,_,_,_] 0xfa32ab1f0a32f10 (qD hn :) this)) (fun u hu v hv=>qP (r1.bd u hu).2 (by have:=(r2.bd v hv).1;exact (jg2 [_,_] 0xf01fa10cab0 this))) p1 p2 (fun l gl s' w hI'=>qJ (.inr ⟨l,gl,rfl,rfl,hI',w⟩)) fun st e s' hf hs he=>qJ (.inr ⟨e,rfl,hf,by rw [hs];exact hn,he⟩)
     ·exact qK (kasC_get (qJ (.inl ⟨l,gl,rfl,rfl,hI,w⟩)))
    ·rintro b st s (⟨rfl,rfl,hI,ht⟩ | g)
     ·exact (False.elim (nq1 [] 0xf0c2c ht))
     ·exact .inl g
   ·rintro b st s (⟨l,gl,rfl,rfl,hI,wp,wa⟩ | ⟨e,rfl,hf,hs,he⟩)
    ·refine qJ (h _ _ _ _ ?_ wa hI)
     refine wp.trans ((r1.perm.append r2.perm).trans ?_)
     rw [List.range_eq_range',<- hn,show List.range' n1 n2=List.range' (0+1 * n1) n2 by simp,List.range'_append]
    ·exact qJ (hd _ _ _ hf hs he)
  ·exact qJ (hd _ _ _ hf hs he)
end K_k_runs
theorem yCL {A E κ it X N Inv Fl gl Q s}:K_k_runs.zP A E κ it X N Inv Fl gl Q s:=eps (P:=U11 K_k_runs.zP) K_k_runs.zh (A,E,κ,it,X,N,Inv,Fl,gl,Q,s)
noncomputable def so_end (a:Addr) (b:Bool) (items:Array Value) (before:Nat) (keys:Array Value) (fin:SortSt->Sem Unit):Sem PySem.Fin:=do
 if b then rule "list.sort.reverse"
 let kind <- if items.size < 2 then pure general' else keyKind' keys
 let ((),s) <- (if items.size < 2 then pure () else sortRuns').run (SortSt.mk' kind (if b then (keys.zip items).reverse else keys.zip items) #[] 7 none)
 fin s
 let touched:=(<- seqEpoch a) != before
 Builtin.List.listUpdate (.ref a) fun O=>if b then ((arrOf s).map (·.2)).reverse else (arrOf s).map (·.2)
 if let some e:=failedOf s then rule "list.sort.comparison-raised";throw e
 if touched then rule "list.sort.modified";raiseError "ValueError" "list modified during sort"
 ret .none
noncomputable def so_plain (a:Addr) (b:Bool):Sem PySem.Fin:=do
 let items <- Builtin.List.listItems (.ref a)
 Builtin.List.listUpdate (.ref a) fun O=>#[]
 let before <- seqEpoch a
 let held <- newTuple items.toList
 let keyStore <- newList []
 holding [held,keyStore] (so_end a b items before items fun O=>pure ())
theorem so_p0 (a:Addr):Builtin.«list.sort» ⟨[.ref a],[]⟩=so_plain a false:=rfl
theorem so_p1 (a:Addr) (b:Bool):Builtin.«list.sort» ⟨[.ref a],[(Str.ofString "reverse",.bool b)]⟩=so_plain a b:=rfl
theorem yDo (q a:Addr):Builtin.«list.sort» ⟨[.ref a],[(Str.ofString "key",.ref q)]⟩=ksk_tree a (.ref q) false:=ksk_t1 q a
theorem yDn (q a:Addr) (b:Bool):Builtin.«list.sort» ⟨[.ref a],[(Str.ofString "key",.ref q),(Str.ofString "reverse",.bool b)]⟩=ksk_tree a (.ref q) b:=ksk_t2 q a b
noncomputable def so_let (keyStore:Value) (s:SortSt):Sem Unit:=do
 Builtin.List.listUpdate keyStore fun O=>#[]
 letGo ((arrOf s).map (·.1)).toList (failedOf s).toList
namespace K_so_kend
def zP (a:Addr) (b:Bool) (items:Array Value) (before:Nat) (keyStore:Value) (keys:Array Value):Prop:=
  ksk_end a b items before keyStore keys=so_end a b items before keys (so_let keyStore)
def zc:=ep (U6 zP) ⟨(0,true,#[],0,.none,#[])⟩
def a:=zc.1
def b:=zc.2.1
def items:=zc.2.2.1
theorem zh:zP a b items zc.2.2.2.1 zc.2.2.2.2.1 zc.2.2.2.2.2:=by
 show zP a b items zc.2.2.2.1 zc.2.2.2.2.1 zc.2.2.2.2.2
 unfold zP
 unfold ksk_end so_end ksk_tail so_let
 cases b
 ·simp only [bind_assoc,wH,if_false]
  by_cases hz:items.size < 2
  ·simp only [qN hz];rfl
  ·simp only [qM hz];rfl
 ·simp only [bind_assoc,if_true]
  by_cases hz:items.size < 2
  ·simp only [qN hz];rfl
  ·simp only [qM hz];rfl
end K_so_kend
theorem yBn (a:Addr) (b:Bool) (items:Array Value) (before:Nat) (keyStore:Value) (keys:Array Value):
  ksk_end a b items before keyStore keys=so_end a b items before keys (so_let keyStore):=
 eps (P:=U6 K_so_kend.zP) K_so_kend.zh (a,b,items,before,keyStore,keys)
def yQw (lt:Nat->Nat->Bool) (rev:Bool) (N:Nat) (ord:List Nat):Prop:=
 ord.Perm (List.range N)/\ord.Pairwise (lt2 (if rev then fun a b=>lt b a else lt))
theorem yWI {keys vs:List Value} (hl:keys.length=vs.length) {i:Nat} (hi:i < vs.length):kas_item (keys.toArray.zip vs.toArray) i=(keys.getD i .none,vs.getD i .none):=by
 unfold kas_item
 have h1:i < keys.length:=(jl3 [_,_,_] 0xf2ab1f02f10 (qD (hl).symm :) hi)
 have h3:i < (keys.zip vs).length:=by rw [length_zip];exact (jl3 [_,_,_] 0xf02f2ab1f10 h1 (qD (min_eq_left (jg2 [_,_] 0xf01f1ab0 (qD hl :))).symm))
 simp [Array.getD_eq_getD_getElem?,h1,hi,qT h3]
theorem yJd {keys vs:List Value} (hl:keys.length=vs.length) {i:Nat} (hi:i < vs.length):kas_item (keys.toArray.zip vs.toArray).reverse i=(keys.getD (vs.length - 1 - i) .none,vs.getD (vs.length - 1 - i) .none):=by
 unfold kas_item
 have h1:vs.length - 1 - i < keys.length:=(jl4 [_,_,_,_] 0xf2ab3f31f02f10 (qD (hl).symm :) (vD _ _) (nc (jg2 [_,_] 0xf0ab1fbab0 hi)))
 have h2:vs.length - 1 - i < vs.length:=(jl3 [_,_,_] 0xf2ab1f02f10 (qD hl :) h1)
 simp [Array.getD_eq_getD_getElem?,hi,h1,h2,hl]
theorem yAj {keys vs:List Value} (hl:keys.length=vs.length) (h2:vs.length < 2) (rev:Bool):
  (if rev=true then (((if rev=true then (keys.toArray.zip vs.toArray).reverse else keys.toArray.zip vs.toArray)).map (·.2)).reverse else ((if rev=true then (keys.toArray.zip vs.toArray).reverse else keys.toArray.zip vs.toArray)).map (·.2))=((List.range vs.length).map fun i=>vs.getD i .none).toArray:=by
 cases vs with
 | nil=>
  cases keys with
  | nil=>cases rev<;>simp
  | cons k ks=>simp at hl
 | cons v r=>
  cases r with
  | nil=>
   cases keys with
   | nil=>simp at hl
   | cons k ks=>
    cases ks with
    | nil=>cases rev<;>simp
    | cons _ _=>simp at hl
  | cons _ _=>exact absurd h2 (by simp only [length_cons];exact (fun zzq=>nq1 [_] 0xf2cababab0 zzq))
theorem yVX {lt:Nat->Nat->Bool} {N:Nat} {l:List Nat} (h1:l.Perm (List.range N)) (h2:l.Pairwise (lt2 fun i j=>lt (N - 1 - i) (N - 1 - j))):yQw lt true N ((l.map fun i=>N - 1 - i).reverse):=by
 refine ⟨?_,?_⟩
 ·refine (List.reverse_perm _).trans ((h1.map _).trans ?_)
  have:(List.range N).map (fun i=>N - 1 - i)=(List.range N).reverse:=by
   apply ext_getElem
   ·simp
   ·intro i hi hj
    simp at hi
    simp [List.getElem_reverse]
  rw [this];exact List.reverse_perm _
 ·rw [List.pairwise_reverse,pairwise_map]
  have hm:∀ x∈l,x < N:=fun x hx=>by simpa using h1.mem_iff.mp hx
  refine List.Pairwise.imp_of_mem ?_ h2
  intro a b ha hb h
  have:=hm a ha
  have:=hm b hb
  simp only [if_true]
  rcases h with h | ⟨h,l⟩
  ·exact .inl h
  ·exact .inr ⟨h,(jl4 [_,_,_,_,_] 0xf4a31fa204f3ab2f10 l na (nc (jg3 [_,_,_] 0xfab02f2ab1f1ab0 this na)))⟩
section
variable {A:Around} {E:VS} {s:Shared}
theorem yCU {it:Array Keyed} {N:Nat} (h:it.size=N):it=ar it (List.range N):=by
 have e:=kas_range it
 rw [h] at e
 have q:ar it (List.range N)=(List.range N).toArray.map (kas_item it):=by unfold ar;rw [List.map_toArray]
 rw [q,e]
end
namespace K_so_end_wp2
def zP (A:Around) (E:VS) (s:Shared) (a:Addr) (keys vs:List Value) (e1:Nat) (κ:SortKind) (fin:SortSt->Sem Unit) (P:PySem.Fin->Shared->Prop) (X:(Nat->Nat->Bool)->Prop) (Bad:Value->Heap->Prop) (K:Heap->Prop):Prop:=∀ (rev:Bool) (hl:keys.length=vs.length) (h128:vs.length < 128) (o:∀ f,X f->SWO f) (ne:∃ f,X f) (hkind:2<=vs.length->∀ Q:SortKind->Shared->Prop,Q κ s->wpAny (model prog w) A (keyKind' keys.toArray) Q E s) (hcmp:∀ i j (C:Bool->Shared->Prop) tk0,i < vs.length->j < vs.length->(∀ b tk,(∀ f,X f->f i j=b)->C b { s with toks:=tk })->wpAny (model prog w) A (keyLt' κ (keys.getD i .none) (keys.getD j .none)) C (fun e s''=>X2 fun h'' tk=>s''={s with heap:=h'',toks:=tk}/\Bad e h'') { s with toks:=tk0 }) (hfin:∀ st tk (Q:Unit->Shared->Prop),failedOf st=none->(∀ h',h'.get? a=some (listOf #[] e1)->K h'->Q () {s with heap:=h',toks:=tk})->wpAny (model prog w) A (fin st) Q E { s with toks:=tk }) (hbad:∀ st e h'' tk,failedOf st=some e->Bad e h''->wpAny (model prog w) A (fin st) (fun _ s3=>X2 fun h3 tk3=>A3 (s3={s with heap:=h3,toks:=tk3}) (h3.get? a=some (listOf #[] e1)) (∀ h',Heap.SameBut a h3 h'->E e {s with heap:=h',toks:=tk3})) E {s with heap:=h'',toks:=tk}) (h:∀ ord ha2 h' tk c,(∀ f,X f->yQw f rev vs.length ord)->K ha2->Heap.SameBut a ha2 h'->h'.get? a=some (listOf (ord.map fun i=>vs.getD i .none).toArray c)->P (.done (.ret .none)) {s with heap:=h',toks:=tk}),
  wpAny (model prog w) A (so_end a rev vs.toArray e1 keys.toArray fin) P E s
def zc:=ep (U13 zP) ⟨({},fun O O=>True,(start default).1,0,[],[],0,oneType',default,fun O O=>True,fun O=>True,fun O O=>True,fun O=>True)⟩
def zd1:=zc.2.2.2.2.2.2.2.2
def A:=zc.1
def E:=zc.2.1
def s:=zc.2.2.1
def a:=zc.2.2.2.1
def keys:=zc.2.2.2.2.1
def vs:=zc.2.2.2.2.2.1
def e1:=zc.2.2.2.2.2.2.1
def κ:=zc.2.2.2.2.2.2.2.1
def fin:=zd1.1
def P:=zd1.2.1
def X:=zd1.2.2.1
def Bad:=zd1.2.2.2.1
theorem zh:zP A E s a keys vs e1 κ fin P X Bad zd1.2.2.2.2:=by
 intro rev hl h128 o ne hkind hcmp hfin hbad h
 obtain ⟨f0,hf0⟩:=ne
 obtain ⟨rest,hrest⟩:∃ rest:SortSt->Sem PySem.Fin,rest=fun st=>(do
    fin st
    let touched:=(<- seqEpoch a) != e1
    Builtin.List.listUpdate (.ref a) fun O=>if rev then ((arrOf st).map (·.2)).reverse else (arrOf st).map (·.2)
    if let some e:=failedOf st then rule "list.sort.comparison-raised";throw e
    if touched then rule "list.sort.modified";raiseError "ValueError" "list modified during sort"
    ret .none):=⟨_,rfl⟩
 have last:∀ (st:SortSt) (ord:List Nat) tk,failedOf st=none->(∀ f,X f->yQw f rev vs.length ord)->(if rev=true then ((arrOf st).map (·.2)).reverse else (arrOf st).map (·.2))=(ord.map fun i=>vs.getD i .none).toArray->
   wpAny (model prog w) A (rest st) P E { s with toks:=tk }:=by
  intro st ord tk hf ho he
  rw [hrest]
  refine qA (hfin st tk _ hf fun ha2 ha hK=>?_)
  have hlen:ord.length=vs.length:=by have:=(ho f0 hf0).1.length_eq;simpa using this
  refine qA (seqEpoch_at ha rfl ?_)
  refine qA (listUpdate_at ha rfl ?_ (vZ _) ?_)
  ·rw [hf]
   simp only [bne_self_eq_false,wH,if_false]
   obtain ⟨c,hc⟩:∃ c,(ha2.update a (Obj.mapSeq fun O=>(ord.map fun i=>vs.getD i .none).toArray)).get? a=some (listOf (ord.map fun i=>vs.getD i .none).toArray c):=⟨_,get?_update_seq ha fun O=>_⟩
   refine qI ?_
   simp only [he]
   exact h ord ha2 _ tk c ho hK (wC ..) hc
  ·rw [he,size_toArray,length_map,hlen,sizeLine_eq];exact (jg2 [_] 0xf0000080dab0f0abab1000000d h128)
 have lastB:∀ (st:SortSt) e h'' tk,failedOf st=some e->(arrOf st).size=vs.length->Bad e h''->wpAny (model prog w) A (rest st) P E {s with heap:=h'',toks:=tk}:=by
  intro st e h'' tk hf hs hB
  rw [hrest]
  refine qA (qL (hbad st e h'' tk hf hB) (fun _ s3 h3=>?_) fun _ _ e=>e)
  obtain ⟨h3,tk3,rfl,g1,g2⟩:=h3
  refine qA (seqEpoch_at g1 rfl ?_)
  refine qA (listUpdate_at g1 rfl ?_ (vZ _) ?_)
  ·rw [hf]
   exact qA (vI (qA (wpAny_throw (g2 _ (wC ..)))))
  ·have e2:(if rev=true then ((arrOf st).map (·.2)).reverse else (arrOf st).map (·.2)).size=vs.length:=by split<;>simp [hs]
   rw [e2,sizeLine_eq];exact (jg2 [_] 0xf0000080dab0f0abab1000000d h128)
 unfold so_end
 have go:wpAny (model prog w) A (do
   let kind <- if vs.toArray.size < 2 then pure general' else keyKind' keys.toArray
   let ((),st) <- (if vs.toArray.size < 2 then pure () else sortRuns').run (SortSt.mk' kind (if rev then (keys.toArray.zip vs.toArray).reverse else keys.toArray.zip vs.toArray) #[] 7 none)
   fin st
   let touched:=(<- seqEpoch a) != e1
   Builtin.List.listUpdate (.ref a) fun O=>if rev then ((arrOf st).map (·.2)).reverse else (arrOf st).map (·.2)
   if let some e:=failedOf st then rule "list.sort.comparison-raised";throw e
   if touched then rule "list.sort.modified";raiseError "ValueError" "list modified during sort"
   ret .none) P E s:=by
  by_cases h2:vs.length < 2
  ·have hz:vs.toArray.size < 2:=by rw [size_toArray];exact h2
   simp only [qN hz]
   refine qA (qI (qA (qI ?_)))
   have l0:=last (SortSt.mk' general' (if rev then (keys.toArray.zip vs.toArray).reverse else keys.toArray.zip vs.toArray) #[] 7 none) (List.range vs.length) s.toks rfl (fun f hf=>⟨.refl _,?_⟩) ?_
   ·rw [hrest] at l0;exact l0
   ·match hv:vs.length,h2 with
    | 0,_=>simp
    | 1,_=>simp
   ·exact yAj hl h2 rev
  ·have hz:¬ vs.toArray.size < 2:=by rw [size_toArray];exact h2
   simp only [qM hz]
   refine qA (hkind (jg2 [_] 0xf02cf2cab0 (qO h2 :)) _ ?_)
   have core:∀ (it:Array Keyed) (X':(Nat->Nat->Bool)->Prop),it.size=vs.length->(∀ f,X' f->SWO f)->(∃ f,X' f)->
     (∀ i j (C:Bool->Shared->Prop) tk0,i < vs.length->j < vs.length->(∀ b tk,(∀ f,X' f->f i j=b)->C b { s with toks:=tk })->wpAny (model prog w) A (keyLt' κ (kas_item it i).1 (kas_item it j).1) C (fun e s''=>X2 fun h'' tk=>s''={s with heap:=h'',toks:=tk}/\Bad e h'') { s with toks:=tk0 })->
     ∀(G:SortSt->Shared->Prop),(∀ l st tk,l.Perm (List.range vs.length)->(∀ f,X' f->l.Pairwise (lt2 f))->arrOf st=ar it l->failedOf st=none->G st { s with toks:=tk })->(∀ st e h'' tk,failedOf st=some e->(arrOf st).size=vs.length->Bad e h''->G st {s with heap:=h'',toks:=tk})->
     wpAny (model prog w) A (sortRuns'.run (SortSt.mk' κ it #[] 7 none)) (fun r s'=>G r.2 s') E s:=by
    intro it X' hsz o' ne' hc G hG hB
    have e:=yCU hsz
    have:=yCL (E:=E) (κ:=κ) (it:=it) (X:=X') (N:=vs.length) (Inv:=fun s'=>∃ tk,s'={ s with toks:=tk }) (Fl:=fun e s''=>X2 fun h'' tk=>s''={s with heap:=h'',toks:=tk}/\Bad e h'') (gl:=7) (Q:=fun _ st s'=>G st s') (s:=s)
     (fun i j C s' hi hj hI hC=>by
      obtain ⟨tk,rfl⟩:=hI
      exact hc i j C tk hi hj fun b tk' hb=>hC b _ hb ⟨tk',rfl⟩) o' ne' (jg2 [_] 0xf02cf2cab0 (qO h2 :)) h128 ⟨s.toks,rfl⟩ (fun l pd gl s' hp ha hI=>by
      obtain ⟨tk,rfl⟩:=hI
      exact hG l _ tk hp ha rfl rfl) (fun st e s'' hf hs hF=>by
      obtain ⟨h'',tk,rfl,hb⟩:=hF
      exact hB st e h'' tk hf hs hb)
    rw [<- e] at this
    exact this
   refine qA ?_
   cases hrev:rev with
   | false=>
    simp only [wH,if_false]
    refine qL (core (keys.toArray.zip vs.toArray) X (by simp [hl]) o ⟨f0,hf0⟩ (fun i j Q tk0 hi hj hq=>?_) (fun st s'=>wpAny (model prog w) A (rest st) P E s') (fun l st tk hp ha har hf=>?_) fun st e h'' tk hf hs hb=>lastB st e h'' tk hf hs hb) (fun r s' hr=>by obtain ⟨⟨⟩,st⟩:=r;rw [hrest,hrev] at hr;simpa using hr) fun _ _ e=>e
    ·rw [yWI hl hi,yWI hl hj];exact hcmp i j Q tk0 hi hj hq
    ·have hout:(arrOf st).map (·.2)=(l.map fun i=>vs.getD i .none).toArray:=by
      apply Array.toList_inj.mp
      rw [har,Array.toList_map]
      show ((l.map (kas_item _)).toArray.toList).map _=_
      simp only [List.map_map]
      refine map_congr_left fun i hi=>?_
      have:i < vs.length:=by simpa using hp.mem_iff.mp hi
      show (kas_item _ i).2=_
      rw [yWI hl this]
     exact last st l tk hf (fun f hf=>by rw [hrev];exact ⟨hp,by simpa using ha f hf⟩) (by rw [hrev];simpa using hout)
   | true=>
    simp only [if_true]
    refine qL (core (keys.toArray.zip vs.toArray).reverse (fun f'=>∃ f,X f/\f'=fun i j=>f (vs.length - 1 - i) (vs.length - 1 - j)) (by simp [hl]) (by rintro f' ⟨f,hf,rfl⟩;exact ⟨fun a b=>(o f hf).asym _ _,fun a b c=>(o f hf).ntr _ _ _⟩) ⟨_,f0,hf0,rfl⟩ (fun i j Q tk0 hi hj hq=>?_) (fun st s'=>wpAny (model prog w) A (rest st) P E s') (fun l st tk hp ha har hf=>?_) fun st e h'' tk hf hs hb=>lastB st e h'' tk hf hs hb) (fun r s' hr=>by obtain ⟨⟨⟩,st⟩:=r;rw [hrest,hrev] at hr;simpa using hr) fun _ _ e=>e
    ·rw [yJd hl hi,yJd hl hj];exact hcmp _ _ Q tk0 (jl3 [_,_,_] 0xf0ab2f21f10 (vD _ _) (nc (jg2 [_] 0xf02cfbab0 (qO h2 :)))) (jl3 [_,_,_] 0xf0ab2f21f10 (vD _ _) (nc (jg2 [_] 0xf02cfbab0 (qO h2 :)))) fun b tk hb=>hq b tk (by rintro f' ⟨f,hf,rfl⟩;exact hb f hf)
    ·have hm:∀ i∈l,i < vs.length:=fun i hi=>by simpa using hp.mem_iff.mp hi
     have hout:((arrOf st).map (·.2)).reverse=(((l.map fun i=>vs.length - 1 - i).reverse).map fun i=>vs.getD i .none).toArray:=by
      apply Array.toList_inj.mp
      rw [har,Array.toList_reverse,Array.toList_map]
      show (((l.map (kas_item _)).toArray.toList).map _).reverse=_
      simp only [List.map_reverse,List.map_map]
      congr 1
      refine map_congr_left fun i hi=>?_
      show (kas_item _ i).2=_
      rw [yJd hl (hm i hi)]
      rfl
     exact last st _ tk hf (fun f hf=>by rw [hrev];exact yVX hp (ha _ ⟨f,hf,rfl⟩)) (by rw [hrev];simpa using hout)
 cases rev
 ·simp only [wH,if_false] at go ⊢;exact go
 ·simp only [if_true] at go ⊢;exact qA (vI go)
end K_so_end_wp2
section
variable {A:Around} {E:VS} {s:Shared}
theorem yVp {a:Addr} {rev:Bool} {keys vs:List Value} {e1:Nat} {κ:SortKind} {fin:SortSt->Sem Unit} {P:PySem.Fin->Shared->Prop} {X:(Nat->Nat->Bool)->Prop} {Bad:Value->Heap->Prop} (K:Heap->Prop)
  (hl:keys.length=vs.length) (h128:vs.length < 128) (o:∀ f,X f->SWO f) (ne:∃ f,X f)
  (hkind:2<=vs.length->∀ Q:SortKind->Shared->Prop,Q κ s->wpAny (model prog w) A (keyKind' keys.toArray) Q E s)
  (hcmp:∀ i j (C:Bool->Shared->Prop) tk0,i < vs.length->j < vs.length->(∀ b tk,(∀ f,X f->f i j=b)->C b { s with toks:=tk })->wpAny (model prog w) A (keyLt' κ (keys.getD i .none) (keys.getD j .none)) C (fun e s''=>X2 fun h'' tk=>s''={s with heap:=h'',toks:=tk}/\Bad e h'') { s with toks:=tk0 })
  (hfin:∀ st tk (Q:Unit->Shared->Prop),failedOf st=none->(∀ h',h'.get? a=some (listOf #[] e1)->K h'->Q () {s with heap:=h',toks:=tk})->wpAny (model prog w) A (fin st) Q E { s with toks:=tk })
  (hbad:∀ st e h'' tk,failedOf st=some e->Bad e h''->wpAny (model prog w) A (fin st) (fun _ s3=>X2 fun h3 tk3=>A3 (s3={s with heap:=h3,toks:=tk3}) (h3.get? a=some (listOf #[] e1)) (∀ h',Heap.SameBut a h3 h'->E e {s with heap:=h',toks:=tk3})) E {s with heap:=h'',toks:=tk})
  (h:∀ ord ha2 h' tk c,(∀ f,X f->yQw f rev vs.length ord)->K ha2->Heap.SameBut a ha2 h'->h'.get? a=some (listOf (ord.map fun i=>vs.getD i .none).toArray c)->P (.done (.ret .none)) {s with heap:=h',toks:=tk}):
  wpAny (model prog w) A (so_end a rev vs.toArray e1 keys.toArray fin) P E s:=
 eps (P:=U13 K_so_end_wp2.zP) K_so_end_wp2.zh (A,E,s,a,keys,vs,e1,κ,fin,P,X,Bad,K) rev hl h128 o ne hkind hcmp hfin hbad h
end
section
variable {M:Model} {A:Around} {E:VS} {s:Shared}
theorem raise_te {α:Type} {msg:String} {Q:α->Shared->Prop} (hh:A.handled=none)
  (h:∀ h' tk e t,Heap.MadeExc s.heap h' e "TypeError" [.str msg t]->E (.ref e) {s with heap:=h',toks:=tk}) (hm:(msg:Str).length<=sizeLine:=by size_fits):
  wpAny M A (raiseError "TypeError" msg:Sem α) Q E s:=by
 unfold raiseErrorMade
 refine qA (wpAny_mkStr (qA ?_) hm)
 unfold newExc newTuple
 refine qA (wpAny_newObj_type ?_)
 refine qA (m:=firstArgMember _ _) (wN (a:=Value.none) (by simp only [firstArgMember,typeError_no_first];rfl) ?_)
 rw [ownMembersOf_TypeError]
 refine wpAny_newObj_type ?_
 unfold raiseNew
 refine qA (wpAny_handled ?_)
 rw [hh]
 first
  | refine wpAny_throw ?_
  | refine qA (qI (wpAny_throw ?_))
 refine h _ _ _ s.toks ⟨fun b o hb=>qS _ (qS _ hb),qV (by simp),s.heap.objs.size,?_,qV (vC _),?_⟩
 ·exact qX _ rfl
 ·exact qS _ (qX _ rfl)
theorem yQd {op:CmpOp} {sym:String} {f r:Str} {a b:Value} {Ta Tb ida idb:String} {Q:VS} (hop:op=.Lt\/op=.Gt) (hi:cmpInfo op=(sym,f,r)) (hh:A.handled=none) (ha:∀ s':Shared,s'.TypeIs a Ta) (hb:∀ s':Shared,s'.TypeIs b Tb)
  (hne:(Value.type Ta != Value.type Tb)=true) (hsub:isSubtype (.type Tb) (.type Ta)=pure false) (h1:Slot Ta f ida) (h2:Slot Tb r idb)
  (hna:(Value.type Ta == Value.type "builtin_function_or_method")=false) (hnb:(Value.type Tb == Value.type "builtin_function_or_method")=false)
  (hc:wpAny M A (call (.builtin ida) [a,b]) (fun v sa1=>v=.notImplemented/\sa1=s) E s) (hc2:wpAny M A (call (.builtin idb) [b,a]) (fun v sa2=>v=.notImplemented/\sa2=s) E s)
  (h:∀ h' tk e t,Heap.MadeExc s.heap h' e "TypeError" [.str (Str.ofString (toString "'"++toString sym++toString "' not supported between instances of '"++toString (shownName Ta)++toString "' and '"++toString (shownName Tb)++toString "'")) t]->E (.ref e) {s with heap:=h',toks:=tk})
  (hv:[a,b].any Value.onHeap=false) (hm:(Str.ofString (toString "'"++toString sym++toString "' not supported between instances of '"++toString (shownName Ta)++toString "' and '"++toString (shownName Tb)++toString "'")).length<=sizeLine):
  wpAny M A (richCompare op a b) Q E s:=by
 simp only [richCompare,hi,(ha s).oneThing_none]
 refine wpAny_holding ?_
 refine qA (wpAny_cRoomFor_or (.inl hv) ?_)
 refine qA (wpAny_typeOf (ha s) (qA (wpAny_typeOf (hb s) ?_)))
 simp only [hne,if_true]
 refine qA (wN hsub ?_)
 simp only [wH,if_false,Bool.not_false,if_true]
 refine qA (m:=tryCompare a _ b) (wpAny_tryCompare_declines (ha s) h1 (qL hc (fun v sa1 ha1=>⟨ha1.1,?_⟩) fun _ _ x=>x))
 obtain ⟨_,rfl⟩:=ha1
 refine qA (m:=tryCompare b _ a) (wpAny_tryCompare_declines (hb sa1) h2 (qL hc2 (fun v sa2 ha2=>⟨ha2.1,?_⟩) fun _ _ x=>x))
 obtain ⟨_,rfl⟩:=ha2
 rcases hop with rfl | rfl
 ·refine qA (vI (qA (wpAny_typeNameOf' (ha sa2) hna (qA (wpAny_typeNameOf' (hb sa2) hnb (raise_te hh h hm))))))
 ·refine qA (vI (qA (wpAny_typeNameOf' (ha sa2) hna (qA (wpAny_typeNameOf' (hb sa2) hnb (raise_te hh h hm))))))
end
theorem yQM:shownName "int"="int":=by decide +kernel
theorem yQp:shownName "str"="str":=by decide +kernel
theorem yQJ:isSubtype (.type "int") (.type "str")=pure false:=by rw [isSubtype_type];kernel_rfl
section
variable {A:Around} {E:VS} {s:Shared}
theorem dec_int {id:String} {i:Int} {t:Tok} {x:Str} {u:Tok} (hid:id="int.__lt__"\/id="int.__gt__"):wpAny (model prog w) A (call (.builtin id) [.int i t,.str x u]) (fun v sa1=>v=.notImplemented/\sa1=s) E s:=by
 rcases hid with rfl | rfl
 ·exact vU slot_int_lt (typeIs_int s i t) entry_int_lt (show wpAny _ _ (do rule "int.binary.not-an-int";ret .notImplemented) _ _ s from qA (vI (qI ⟨_,rfl,rfl,rfl⟩))) (args_int_lt _ _)
 ·exact vU F.slot_int_gt (typeIs_int s i t) F.entry_int_gt (show wpAny _ _ (do rule "int.binary.not-an-int";ret .notImplemented) _ _ s from qA (vI (qI ⟨_,rfl,rfl,rfl⟩))) (F.args_int_gt_2 _ _)
theorem dec_str {id:String} {i:Int} {t:Tok} {x:Str} {u:Tok} (hid:id="str.__lt__"\/id="str.__gt__"):wpAny (model prog w) A (call (.builtin id) [.str x u,.int i t]) (fun v sa1=>v=.notImplemented/\sa1=s) E s:=by
 rcases hid with rfl | rfl
 ·exact vU slot_str_lt (typeIs_str s x u) entry_str_lt (show wpAny _ _ (do rule "str.__lt__.not-a-str";ret .notImplemented) _ _ s from qA (vI (qI ⟨_,rfl,rfl,rfl⟩))) (args_str_lt _ _)
 ·exact vU F.slot_str_gt (typeIs_str s x u) F.entry_str_gt (show wpAny _ _ (do rule "str.__gt__.not-a-str";ret .notImplemented) _ _ s from qA (vI (qI ⟨_,rfl,rfl,rfl⟩))) (PyProof.Rows.args_str_gt _ _)
end
section
variable {h:Heap}
noncomputable def framesOf (l:List Env):List Addr:=l.filterMap (·.frame)
theorem framesOf_mem {l:List Env}:∀ env∈l,∀ a,env.frame=some a->a∈framesOf l:=fun env he a ha=>mem_filterMap.mpr ⟨env,he,ha⟩
def yQa (outer:List Env) (h h':Heap):Prop:=∀ a∈framesOf outer,∀ m,h.Ns a m->h'.Ns a m
theorem yQa.refl {outer:List Env}:yQa outer h h:=fun _ _ _ x=>x
theorem yQa.trans {outer:List Env} {h' h'':Heap} (x:yQa outer h h') (y:yQa outer h' h''):yQa outer h h'':=fun a ha m n=>y a ha m (x a ha m n)
theorem yQa.of_keeps {outer:List Env} {h':Heap} (k:h.StaysIn h'):yQa outer h h':=fun a _ m n=>by
 obtain ⟨o,es,ep,ho,r⟩:=n
 exact ⟨o,es,ep,k _ _ ho,r⟩
theorem yQa.of_slots {outer:List Env} {h':Heap} (k:h.UpToSlots h'):yQa outer h h':=fun a _ m n=>k.ns n
end
def yQs (T:String) (b:Heap) (l:List Env) (h0:Heap) (Wd:Str->Prop) (ex:Addr) (h:Heap):Prop:=
 X3 fun t m tk=>A5 (Heap.FlyingW b l ex (.type T) (.ref t) h) (h.TupAt t [.str m tk]) (Wd m) (b.get? t=none) (yQa l h0 h)
def yQB (T:String) (b:Heap) (l:List Env) (h0:Heap) (Wd:Str->Prop) (L ex:Addr) (h:Heap):Prop:=
 X3 fun t m tk=>A5 (Heap.HeldW b l ex (.type T) (.ref t) L h) (h.TupAt t [.str m tk]) (Wd m) (b.get? t=none) (yQa l h0 h)
section
variable {T:String} {M:Model} {A:Around} {E:VS} {s:Shared} {b h h0:Heap} {Wd:Str->Prop} {env:Env} {outer:List Env} {L ex:Addr}
theorem yQa.tail (x:yQa (env::outer) h0 h):yQa outer h0 h:=fun a ha=>x a (by
 unfold framesOf at ha ⊢
 rw [List.filterMap_cons]
 split
 ·exact ha
 ·exact .tail _ ha)
theorem yWq {m:Str} {tk:Tok} {Q:Unit->Shared->Prop} (hfr:A.frames=some (env::outer)) (hf:env.frame=some L) (hl:h.FunFrames b (env::outer)) (st:b.StaysIn h) (hx:Heap.MadeExc h s.heap ex T [.str m tk]) (hw:Wd m) (fr:yQa outer h0 h)
  (k:∀ h',yQs T b outer h0 Wd ex h'->Q () {s with heap:=h'}):wpAny M A (leaving env (.ref ex)) Q E s:=
 wpAny_leaves_madeW hfr hf st hl hx.of fun h' t x1 x2 x3 x4=>k h' ⟨t,m,tk,x1,x2,hw,x3,fr.trans ((yQa.of_keeps hx.keeps).trans (yQa.of_slots x4))⟩
theorem yAZ {Q:Unit->Shared->Prop} (hfr:A.frames=some (env::outer)) (hf:env.frame=some L) (hx:yQs T b (env::outer) h0 Wd ex s.heap)
  (k:∀ h',yQs T b outer h0 Wd ex h'->Q () {s with heap:=h'}):wpAny M A (leaving env (.ref ex)) Q E s:=by
 obtain ⟨t,m,tk,f1,f2,f3,f4,f5⟩:=hx
 exact wpAny_leaves_onW hfr hf f1 fun h' x1 x2=>k h' ⟨t,m,tk,x1,f2.of_slots x2,f3,f4,f5.tail.trans (yQa.of_slots x2)⟩
theorem set_held {cls a0 fl:Value} {l:List Env} {Q:Unit->Shared->Prop} (hkb:b.StaysIn s.heap) (hen:b.get? ex=none) (hl:s.heap.FunFrames b l) (ht:s.heap.TracedAtW b ex cls a0 fl)
  (k:∀ h',Heap.HeldW b l ex cls a0 L h'->s.heap.UpToSlots h'->Q () {s with heap:=h'}):wpAny M A (setFlight (.ref ex) (some L)) Q E s:=by
 obtain ⟨oe,vs,T,oT,ts,he,hcls,hd,h1,hnT,hTe,hT,hdT,h3⟩:=ht
 have hsz3:3 < ts.size:=(Array.getElem?_eq_some_iff.mp h3).1
 have other:∀ x,x≠T->(s.heap.update T (Obj.mapFields (·.setIfInBounds 3 ((some L).elim Value.none fun f=>rawInt f)))).get? x=s.heap.get? x:=fun x hb=>Heap.get?_update_other _ _ (vF hb)
 have noRecord:∀ x o,s.heap.get? x=some o->(∀ vs,o.data≠.fields vs)->x≠T:=fun x o hb hnf q=>by
  rw [q,hT] at hb;injection hb with hb;subst hb;exact hnf ts hdT
 unfold setFlight
 refine qA (vT he hd h1 ?_)
 rw [qN (show (Value.ref T != Value.none)=true from by simp)]
 refine wpAny_setField hT hdT hsz3 (k _ ⟨fun x o hbo=>(other x fun q=>by rw [q,hnT] at hbo;cases hbo).trans (hkb x o hbo),hen,hl.of_keeps fun x o hb hnf=>⟨o,(other x (noRecord x o hb hnf)).trans hb,rfl⟩,?_⟩ fun x o hb hn=>⟨o.slots,(other x (noRecord x o hb hn)).trans hb⟩)
 exact ⟨oe,vs,T,_,_,(other ex (vF hTe)).trans he,hcls,hd,h1,hnT,hTe,Heap.get?_update_self _ hT (Obj.isFreed_of_fields (Obj.data_mapFields hdT _)),Obj.data_mapFields hdT _,by simp [hsz3]⟩
theorem yWx {cls a0:Value} {l:List Env} (hf:env.frame=some L) (hx:Heap.HeldW b l ex cls a0 L s.heap)
  (k:∀ h',Heap.HeldW b l ex cls a0 L h'->s.heap.UpToSlots h'->E (.ref ex) {s with heap:=h'}):cameBackBy M A env E (.ref ex) s:=by
 obtain ⟨x1,x2,x3,x4⟩:=hx
 unfold cameBackBy
 obtain ⟨oe,vs,T,oT,ts,he,hcls,hd,h1,r⟩:=x4
 refine qA (vT he hd h1 ?_)
 rw [qM (show ¬ ((Value.ref T == Value.none)=true) from by simp),hf]
 exact set_held x1 x2 x3 ⟨oe,vs,T,oT,ts,he,hcls,hd,h1,r⟩ k
theorem yVv {m:Str} {tk:Tok} (hfr:A.frames=some (env::outer)) (hf:env.frame=some L) (hl:h.FunFrames b (env::outer)) (st:b.StaysIn h) (hx:Heap.MadeExc h s.heap ex T [.str m tk]) (hw:Wd m) (fr:yQa (env::outer) h0 h)
  (k:∀ h',yQB T b (env::outer) h0 Wd L ex h'->E (.ref ex) {s with heap:=h'}):notedBy M A env (cameBackBy M A env E) (.ref ex) s:=by
 obtain ⟨t,he,htn,ht⟩:=hx.there
 have fresh:∀ x,h.get? x=none->b.get? x=none:=fun x hb=>by
  cases hq:b.get? x with
  | none=>rfl
  | some o'=>have:=st x o' hq;rw [hb] at this;cases this
 unfold notedBy noteFrame
 simp only [hf]
 refine qA (vT he rfl (x:=.none) rfl ?_)
 rw [qM (by decide)]
 refine wpAny_entryW hfr (hl.of_keeps fun x o hb _=>⟨o,hx.keeps x o hb,rfl⟩) hf he (fun x o hb=>hx.keeps x o (st x o hb)) (fresh ex hx.new) rfl (by simp) (a0:=.ref t) rfl fun ha1 N1=>?_
 obtain ⟨n1,n2,n3,n4⟩:=N1
 refine yWx (s:={s with heap:=ha1}) hf ⟨n1,fresh ex hx.new,n2,n3⟩ fun ha2 y1 y2=>k ha2 ⟨t,m,tk,y1,?_,hw,fresh t htn,?_⟩
 ·have t0:s.heap.TupAt t [.str m tk]:=⟨_,_,ht,rfl,rfl⟩
  have t1:ha1.TupAt t [.str m tk]:=t0.of_slots n4
  exact t1.of_slots y2
 ·exact fr.trans ((yQa.of_keeps hx.keeps).trans ((yQa.of_slots (h:=s.heap) (h':=ha1) n4).trans (yQa.of_slots (h:=ha1) y2)))
theorem yYV (hfr:A.frames=some (env::outer)) (hf:env.frame=some L) (hx:yQs T b (env::outer) h0 Wd ex s.heap)
  (k:∀ h',yQB T b (env::outer) h0 Wd L ex h'->E (.ref ex) {s with heap:=h'}):notedBy M A env (cameBackBy M A env E) (.ref ex) s:=by
 obtain ⟨t,m,tk,f1,f2,f3,f4,f5⟩:=hx
 unfold notedBy
 refine wpAny_looks_onW hfr hf f1 fun ha1 x1 x2=>?_
 exact yWx (s:={s with heap:=ha1}) hf x1 fun ha2 y1 y2=>k ha2 ⟨t,m,tk,y1,(f2.of_slots x2).of_slots y2,f3,f4,f5.trans ((yQa.of_slots x2).trans (yQa.of_slots (h:=ha1) y2))⟩
theorem yQH {Q:Unit->Shared->Prop} (hf:env.frame=some L) (hx:yQB T b (env::outer) h0 Wd L ex s.heap)
  (k:∀ h',yQs T b outer h0 Wd ex h'->Q () {s with heap:=h'}):wpAny M A (leaving env (.ref ex)) Q E s:=by
 obtain ⟨t,m,tk,f1,f2,f3,f4,f5⟩:=hx
 unfold leaving
 refine qA (wpAny_noteFrame_againW hf f1.2.2.2 ?_)
 refine wpAny_landsW f1 fun h' g1 g2=>k h' ?_
 obtain ⟨k1,k2,⟨_,_,k3⟩,k4⟩:=g1
 exact ⟨t,m,tk,⟨k1,k2,k3,k4⟩,f2.of_slots g2,f3,f4,f5.tail.trans (yQa.of_slots g2)⟩
end
noncomputable def ltK (j:Nat) (u v:It):Bool:=decide (u.k.getD j 0 < v.k.getD j 0) || (decide (u.k.getD j 0=v.k.getD j 0) && decide (u.i < v.i))
def XI (f:It->It->Bool):Prop:=f=ltK 0\/f=ltK 1
theorem yCj {a b:Int} {p:Prop} [Decidable p]:(decide (a < b) || (decide (a=b) && decide p))=false↔b<=a/\(a=b->¬ p):=by
 rw [or_eq_false_iff,decide_eq_false_iff_not,Bool.and_eq_false_imp,decide_eq_true_eq,decide_eq_false_iff_not,Int.not_lt]
theorem lx_t {a b:Int} {p:Prop} [Decidable p]:(decide (a < b) || (decide (a=b) && decide p))=true↔a < b\/(a=b/\p):=by
 rw [or_eq_true,decide_eq_true_eq,and_eq_true,decide_eq_true_eq,decide_eq_true_eq]
theorem yYR {a b:Int} {p q:Prop} [Decidable p] [Decidable q] (h:p->¬ q) (h1:(decide (a < b) || (decide (a=b) && decide p))=true):(decide (b < a) || (decide (b=a) && decide q))=false:=
 yCj.mpr ((lx_t.mp h1).elim (fun z=>⟨Int.le_of_lt z,fun e=>absurd z (by rw [e];exact Int.lt_irrefl _)⟩) fun z=>⟨Int.le_of_eq z.1,fun O=>h z.2⟩)
theorem yAV {a b c:Int} {p q r:Prop} [Decidable p] [Decidable q] [Decidable r] (h:¬ p->¬ q->¬ r) (h1:(decide (a < b) || (decide (a=b) && decide p))=false) (h2:(decide (b < c) || (decide (b=c) && decide q))=false):(decide (a < c) || (decide (a=c) && decide r))=false:=
 have h1:=yCj.mp h1
 have h2:=yCj.mp h2
 yCj.mpr ⟨Int.le_trans h2.1 h1.1,fun e=>h (h1.2 (Int.le_antisymm (by rw [e];exact h2.1) h1.1)) (h2.2 (Int.le_antisymm (by rw [<- e];exact h1.1) h2.1))⟩
theorem yXr {j:Nat} {u v:It} (h:ltK j u v=true):ltK j v u=false:=yYR (fun a b=>Int.lt_irrefl _ (Int.lt_trans a b)) h
theorem yYS {j:Nat} {u v x:It} (h1:ltK j u v=false) (h2:ltK j v x=false):ltK j u x=false:=yAV (fun a b=>Int.not_lt.mpr (Int.le_trans (Int.not_lt.mp b) (Int.not_lt.mp a))) h1 h2
def yZS (prog:Program) (w:World) (b:Heap) (S:It->Prop) (X:(It->It->Bool)->Prop) (Wd:Str->Prop):Prop:=
 ∀u v,S u->S v->∀ (A:Around) (Q:VS) (E:VS) (s:Shared),A.units<=1000->A.handled=none->b.StaysIn s.heap->
  (∀ bb tk,(∀ f,X f->f u v=bb)->Q (.bool bb) { s with toks:=tk })->
  (∀ h' tk e m t,Heap.MadeExc s.heap h' e "TypeError" [.str m t]->Wd m->E (.ref e) {s with heap:=h',toks:=tk})->wpAny (model prog w) A (compareOp .Lt u.v v.v) Q E s
theorem yZS.keeps {b b':Heap} {S:It->Prop} {X:(It->It->Bool)->Prop} {Wd:Str->Prop} (c:yZS prog w b S X Wd) (st:b.StaysIn b'):yZS prog w b' S X Wd:=
 fun u v hu hv A Q E s ha hA hs h hE=>c u v hu hv A Q E s ha hA (fun x o e=>hs _ _ (st _ _ e)) h hE
section
variable {A:Around} {E:VS} {s:Shared} {b:Heap}
theorem yWU {a b:Int} {t u:Tok} {Q:Bool->Shared->Prop} (h:Q (decide (a=b)) s):wpAny (model prog w) A (eqBool (.int a t) (.int b u)) Q E s:=
 wpAny_eqBool_int (by rw [show (a == b)=decide (a=b) from by by_cases h:a=b<;>simp [h]];exact h)
def yDi (prog:Program) (w:World) (A:Around) (b fin:Bool) (Q:Bool->Shared->Prop) (E:VS):List (Value×Value)->Nat->Shared->Prop
 | [],_,s=>Q fin s
 | (p,q)::r,i,s=>wpAny (model prog w) A (eqBool p q) (fun e s'=>if e=true then yDi prog w A b fin Q E r (i+1) s' else wpAny (model prog w) A (oneLt' (b && i == 0) p q) Q E s') E s
theorem tlex_loop {bo fin:Bool} {Q:Bool->Shared->Prop} {R:Option Bool×Unit->Shared->Prop} {body:(Value×Value)×Nat->Option Bool×Unit->Sem (ForInStep (Option Bool×Unit))}
  (hb:∀ p q i (s:Shared) (R':ForInStep (Option Bool×Unit)->Shared->Prop),
   wpAny (model prog w) A (eqBool p q) (fun e s'=>if e=true then R' (.yield (none,())) s' else wpAny (model prog w) A (oneLt' (bo && i == 0) p q) (fun c s''=>R' (.done (some c,())) s'') E s') E s->
   wpAny (model prog w) A (body ((p,q),i) (none,())) R' E s)
  (h1:∀ s,Q fin s->R (none,()) s) (h2:∀ c s,Q c s->R (some c,()) s):∀ (l:List (Value×Value)) (i:Nat) (s:Shared),yDi prog w A bo fin Q E l i s->wpAny (model prog w) A (forIn (l.zipIdx i) (none,()) body) R E s
 | [],i,s,h=>by rw [List.zipIdx_nil,forIn_nil];exact qI (h1 s h)
 | (p,q)::r,i,s,h=>by
  rw [zipIdx_cons,forIn_cons]
  refine qA (hb p q i s _ (qL h (fun e s' he=>?_) fun _ _ x=>x))
  cases e with
  | true=>
   simp only [if_true] at he ⊢
   exact tlex_loop hb h1 h2 r (i+1) s' he
  | false=>
   simp only [wH,if_false] at he ⊢
   exact qL he (fun v s'' hv=>qI (h2 v s'' hv)) fun _ _ x=>x
theorem yYm {x y:Addr} {ox oy:Obj} {xs ys:Array Value} {n k:Nat} {bo:Bool} {Q:Bool->Shared->Prop} (hx:s.heap.get? x=some ox) (dx:ox.data=.seq xs n) (hy:s.heap.get? y=some oy) (dy:oy.data=.seq ys k)
  (h:yDi prog w A bo (decide (xs.size < ys.size)) Q E (xs.toList.zip ys.toList) 0 s):wpAny (model prog w) A (keyLt' (tuples' bo) (.ref x) (.ref y)) Q E s:=by
 rw [kat_lt_eq]
 refine qA (listItems_at hx dx (qA (listItems_at hy dy ?_)))
 refine qA (tlex_loop (bo:=bo) (fin:=decide (xs.size < ys.size)) (Q:=Q) (fun p q i s' R' h'=>?_) (fun s' hq=>?_) (fun c s' hq=>?_) _ 0 s h)
 ·dsimp only
  refine qA (qL h' (fun e s'' he=>?_) fun _ _ x=>x)
  cases e with
  | true=>
   simp only [if_true] at he
   (try simp only [Bool.not_true,wH,if_false])
   exact qI he
  | false=>
   simp only [wH,if_false] at he
   (try simp only [Bool.not_false,if_true])
   exact qA (qL he (fun v s3 hv=>qI hv) fun _ _ x=>x)
 ·exact qI hq
 ·exact qI hq
end
noncomputable def fb (b:Heap) (l:List Env):Heap:=hideAll b (framesOf l)
theorem fb_stays {b h:Heap} {l:List Env} (st:b.StaysIn h):(fb b l).StaysIn h:=fun x o e=>st _ _ (vL _ e)
theorem yQh {env:Env} {outer:List Env} {L:Addr} (hf:env.frame=some L):framesOf (env::outer)=L::framesOf outer:=by unfold framesOf;rw [List.filterMap_cons,hf]
section
variable {T:String} {M:Model} {A:Around} {E:VS} {s s':Shared} {b b' h:Heap} {Wd:Str->Prop} {outer:List Env} {L ex:Addr} {m:Str->Option Value} {env:Env}
theorem yWs {h h' base base':Heap} {l:List Env} (x:h.FunFrames base l) (k:∀ a∈framesOf l,∀ o,base.get? a=none->h.get? a=some o->base'.get? a=none/\h'.get? a=some o):h'.FunFrames base' l:=by
 induction l with
 | nil=>trivial
 | cons env r ih=>
  obtain ⟨hk,⟨L,o,hf,hn,ho,hd⟩,hr⟩:=x
  obtain ⟨k1,k2⟩:=k L (mem_filterMap.mpr ⟨env,.head _,hf⟩) o hn ho
  exact ⟨hk,⟨L,o,hf,k1,k2,hd⟩,ih hr fun a ha=>k a (by
   obtain ⟨e,he,hf⟩:=mem_filterMap.mp ha
   exact mem_filterMap.mpr ⟨e,.tail _ he,hf⟩)⟩
theorem ff_keep {h h' base:Heap} {l:List Env} (x:h.FunFrames base l) (k:h.StaysIn h'):h'.FunFrames base l:=yWs x fun _ _ _ n g=>⟨n,k _ _ g⟩
theorem fb_sub {S:List Addr} (F:Fr b L h m) (hS:∀ x∈S,b.get? x=none) (hf:env.frame=some L:=by rfl):(fb b outer).StaysIn (fb (hideAll h S) (env::outer)):=fun x o e=>by
 have hb:b.get? x=some o:=vL _ e
 refine vJ _ (vJ _ (F.keep _ _ hb) fun z=>by rw [hS x z] at hb;cases hb) fun z=>?_
 rcases qG.mp (show x∈L::framesOf outer from (by rw [yQh hf] at z;exact z)) with rfl | z
 ·exact absurd (qU hb) (vX.mpr F.above)
 ·rw [show (fb b outer).get? x=none from vK _ z] at e;cases e
theorem yQZ {base:Heap} {l:List Env} (hl:b.FunFrames base l) {a:Addr} (ha:a∈framesOf l):∃ o,b.get? a=some o:=by
 obtain ⟨_,o,ho,_⟩:=hl.mem ha
 exact ⟨o,ho⟩
theorem fb_none (F:Fr b L h m):(fb b outer).get? L=none:=by
 cases q:(fb b outer).get? L with
 | none=>rfl
 | some o=>exact absurd (qU (vL _ q)) (vX.mpr F.above)
theorem ff_push {base:Heap} (F:Fr b L h m) (hl:b.FunFrames base outer) (hn:base.get? L=none) (hk:env.scope.kind=.function) (hf:env.frame=some L:=by rfl):h.FunFrames base (env::outer):=
 Heap.FunFrames.cons (by show env.scope.kind≠_;rw [hk];simp) hf F.ns hn (ff_keep hl F.keep)
theorem ff_base {h base base':Heap} {l:List Env} (x:h.FunFrames base l) (k:∀ a∈framesOf l,base'.get? a=none):h.FunFrames base' l:=yWs x fun a ha _ _ g=>⟨k a ha,g⟩
theorem ff_hide {h base:Heap} {S:List Addr} {l:List Env} (x:h.FunFrames base l) (k:∀ a∈framesOf l,a ∉ S):(hideAll h S).FunFrames base l:=yWs x fun a ha _ n g=>⟨n,vJ _ g (k a ha)⟩
theorem ff_call {S:List Addr} (F:Fr b L h m) (hl:b.FunFrames (fb b outer) outer) (hS:∀ x∈S,x≠L/\b.get? x=none) (hk:env.scope.kind=.function) (hf:env.frame=some L:=by rfl):
  (hideAll h S).FunFrames (fb (hideAll h S) (env::outer)) (env::outer):=by
 refine ff_base (ff_hide (ff_push F hl (fb_none F) hk hf) fun a ha z=>?_) fun a ha=>vK _ ha
 rcases qG.mp (show a∈L::framesOf outer from (by rw [yQh hf] at ha;exact ha)) with rfl | ha
 ·exact (hS a z).1 rfl
 ·obtain ⟨o,ho⟩:=yQZ hl ha
  rw [(hS a z).2] at ho;cases ho
theorem framed0 (F:Fr b L h m) (hl:b.FunFrames (fb b outer) outer) (hL:s.heap.get? L=none) (st:b.StaysIn s.heap) (hf:env.frame=some L:=by rfl):yQa (env::outer) s.heap h:=fun a ha m' n=>by
 rcases qG.mp (show a∈L::framesOf outer from (by rw [yQh hf] at ha;exact ha)) with rfl | ha
 ·obtain ⟨o,_,_,ho,_⟩:=n
  rw [hL] at ho;cases ho
 ·obtain ⟨o,ho⟩:=yQZ hl ha
  obtain ⟨o',es,ep,ho',r⟩:=n
  have e:=st _ _ ho
  rw [ho'] at e;cases e
  exact ⟨o,es,ep,F.keep _ _ ho,r⟩
def yJu (T:String) (E:VS) (b:Heap) (outer:List Env) (s:Shared) (Wd:Str->Prop):Prop:=∀ ex h' tk,yQs T (fb b outer) outer s.heap Wd ex h'->E (.ref ex) {s with heap:=h',toks:=tk}
theorem yVs {mm:Str} {t:Tok} {h':Heap} {tk:Tok} (hE:yJu T E b outer s Wd) (hfr:A.frames=some outer) (F:Fr b L h m) (hl:b.FunFrames (fb b outer) outer) (hL:s.heap.get? L=none) (st:b.StaysIn s.heap) (hx:Heap.MadeExc h h' ex T [.str mm t]) (hw:Wd mm) (hk:env.scope.kind=.function:=by rfl) (hf:env.frame=some L:=by rfl):
  notedBy M (A.deeper env) env (cameBackBy M (A.deeper env) env (fun e s'=>wpAny M (A.deeper env) (leaving env e) (fun _ s''=>E e s'') (fun e' s''=>E e' s'') s')) (.ref ex) {s with heap:=h',toks:=tk}:=
 yVv (s:={s with heap:=h',toks:=tk}) (vO hfr) hf (ff_push F hl (fb_none F) hk hf) (fb_stays F.keep) hx hw (framed0 F hl hL st hf) fun h'' hx=>yQH (s:={s with heap:=h'',toks:=tk}) hf hx fun h3 fl=>hE ex h3 tk fl
theorem call_flew {S:List Addr} {h':Heap} (F:Fr b L h m) (hl:b.FunFrames (fb b outer) outer) (hL:s.heap.get? L=none) (st:b.StaysIn s.heap) (hS:∀ x∈S,b.get? x=none) (fl:yQs T (fb (hideAll h S) (env::outer)) (env::outer) h Wd ex h') (hf:env.frame=some L:=by rfl):
  yQs T (fb b outer) (env::outer) s.heap Wd ex h':=by
 obtain ⟨t,mm,tk,x1,x2,x3,x4,x5⟩:=fl
 have sub:=fb_sub (outer:=outer) (env:=env) F hS hf
 exact ⟨t,mm,tk,flyingW_base sub x1,x2,x3,fresh_of_stays sub x4,(framed0 F hl hL st hf).trans x5⟩
theorem yWB {S:List Addr} {h':Heap} {tk:Tok} (hE:yJu T E b outer s Wd) (hfr:A.frames=some outer) (F:Fr b L h m) (hl:b.FunFrames (fb b outer) outer) (hL:s.heap.get? L=none) (st:b.StaysIn s.heap) (hS:∀ x∈S,b.get? x=none) (fl:yQs T (fb (hideAll h S) (env::outer)) (env::outer) h Wd ex h') (hf:env.frame=some L:=by rfl):
  wpAny M (A.deeper env) (leaving env (.ref ex)) (fun _ s''=>E (.ref ex) s'') (fun e' s''=>E e' s'') {s with heap:=h',toks:=tk}:=
 yAZ (s:={s with heap:=h',toks:=tk}) (vO hfr) hf (call_flew F hl hL st hS fl hf) fun h'' fl=>hE ex h'' tk fl
theorem yZy {S:List Addr} {h':Heap} {tk:Tok} (hE:yJu T E b outer s Wd) (hfr:A.frames=some outer) (F:Fr b L h m) (hl:b.FunFrames (fb b outer) outer) (hL:s.heap.get? L=none) (st:b.StaysIn s.heap) (hS:∀ x∈S,b.get? x=none) (fl:yQs T (fb (hideAll h S) (env::outer)) (env::outer) h Wd ex h') (hf:env.frame=some L:=by rfl):
  notedBy M (A.deeper env) env (cameBackBy M (A.deeper env) env (fun e s'=>wpAny M (A.deeper env) (leaving env e) (fun _ s''=>E e s'') (fun e' s''=>E e' s'') s')) (.ref ex) {s with heap:=h',toks:=tk}:=
 yYV (s:={s with heap:=h',toks:=tk}) (vO hfr) hf (call_flew F hl hL st hS fl hf) fun h'' hx=>yQH (s:={s with heap:=h'',toks:=tk}) hf hx fun h3 fl=>hE ex h3 tk fl
end
section
variable {A:Around} {E:VS} {s:Shared}
theorem yAx {h h':Heap} {a:Addr} (k:Heap.ExtBut a h h'):(hideAll h [a]).StaysIn h':=fun x o e=>
 k x o (fun q=>by have:=vK [a] (h:=h) (b:=x) (by rw [q];exact qC.mpr rfl);rw [this] at e;cases e) (vL _ e)
theorem made_hide {T:String} {a:Addr} {o:Obj} {H1 h1 h':Heap} {ex:Addr} {m:Str} {t:Tok} (hx:Heap.MadeExc H1 h1 ex T [.str m t]) (ha:H1.get? a=some o) (hs:Heap.SameBut a h1 h'):Heap.MadeExc (hideAll H1 [a]) h' ex T [.str m t]:=by
 obtain ⟨k,n,tt,x1,x2,x3⟩:=hx
 have hn:∀ x,H1.get? x=none->x≠a:=fun x q e=>by rw [e,ha] at q;cases q
 have no:∀ x,H1.get? x=none->(hideAll H1 [a]).get? x=none:=fun x q=>by
  cases z:(hideAll H1 [a]).get? x with
  | none=>rfl
  | some o=>have:=vL _ z;rw [q] at this;cases this
 refine ⟨fun x o e=>?_,no _ n,tt,(hs.2 _ (hn _ n)).trans x1,no _ x2,(hs.2 _ (hn _ x2)).trans x3⟩
 have:x≠a:=fun q=>by rw [q,vK _ (.head _)] at e;cases e
 exact (hs.2 _ this).trans (k _ _ (vL _ e))
theorem yJE {a:Addr} {rev:Bool} {vs:List Value} {n:Nat} {κ:SortKind} {P:PySem.Fin->Shared->Prop} {X:(Nat->Nat->Bool)->Prop} {Wd:Str->Prop}
  (ha:s.heap.get? a=some (listOf vs.toArray n)) (h128:vs.length < 128) (o:∀ f,X f->SWO f) (ne:∃ f,X f)
  (hkind:2<=vs.length->∀ (s':Shared) (Q:SortKind->Shared->Prop),(hideAll s.heap [a]).StaysIn s'.heap->Q κ s'->wpAny (model prog w) A (keyKind' vs.toArray) Q E s')
  (hcmp:∀ i j (Q:Bool->Shared->Prop) (E':VS) (s':Shared),i < vs.length->j < vs.length->(hideAll s.heap [a]).StaysIn s'.heap->(∀ b tk,(∀ f,X f->f i j=b)->Q b { s' with toks:=tk })->
   (∀ h' tk e m t,Heap.MadeExc s'.heap h' e "TypeError" [.str m t]->Wd m->E' (.ref e) { s' with heap:=h',toks:=tk })->wpAny (model prog w) A (keyLt' κ (vs.getD i .none) (vs.getD j .none)) Q E' s')
  (h:∀ ord h' tk c,(∀ f,X f->yQw f rev vs.length ord)->(hideAll s.heap [a]).StaysIn h'->h'.get? a=some (listOf (ord.map fun i=>vs.getD i .none).toArray c)->P (.done (.ret .none)) {s with heap:=h',toks:=tk})
  (hE:∀ H h' tk e m t,(hideAll s.heap [a]).StaysIn H->Heap.MadeExc H h' e "TypeError" [.str m t]->Wd m->E (.ref e) {s with heap:=h',toks:=tk}):
  wpAny (model prog w) A (so_plain a rev) P E s:=by
 have s1:=wC s.heap a (Obj.mapSeq fun O=>(#[]:Array Value))
 obtain ⟨e1,ho1⟩:∃ e1,(s.heap.update a (Obj.mapSeq fun O=>(#[]:Array Value))).get? a=some (listOf #[] e1):=⟨_,get?_update_seq ha fun O=>#[]⟩
 unfold so_plain
 refine qA (listItems_at ha rfl ?_)
 refine qA (listUpdate_at ha rfl ?_ (by rw [size_toArray,sizeLine_eq];exact (jg2 [_] 0xf0000080dab0f0ab1000000d h128)) (vZ _))
 refine qA (seqEpoch_at ho1 rfl ?_)
 refine qA (wpAny_newTuple ?_ (by show vs.length<=_;rw [sizeLine_eq];exact (jg2 [_] 0xf0000080dab0f0ab1000000d h128)))
 refine qA (wpAny_newList ?_ (vZ _))
 refine wpAny_holding ?_
 have st:(hideAll s.heap [a]).StaysIn (((s.heap.update a (Obj.mapSeq fun O=>(#[]:Array Value))).push (seqObj "tuple" vs.toArray 0)).push (seqObj "list" #[] 0)):=yAx fun x o hx e=>qS _ (qS _ (s1.extBut x o hx e))
 have ha3:(((s.heap.update a (Obj.mapSeq fun O=>(#[]:Array Value))).push (seqObj "tuple" vs.toArray 0)).push (seqObj "list" #[] 0)).get? a=some (listOf #[] e1):=qS _ (qS _ ho1)
 show wpAny (model prog w) A _ P E { s with heap:=((s.heap.update a (Obj.mapSeq fun O=>(#[]:Array Value))).push (seqObj "tuple" vs.toArray 0)).push (seqObj "list" #[] 0) }
 generalize hH:((s.heap.update a (Obj.mapSeq fun O=>(#[]:Array Value))).push (seqObj "tuple" vs.toArray 0)).push (seqObj "list" #[] 0)=H at st ha3
 have off:∀ x o,(hideAll s.heap [a]).get? x=some o->x≠a:=fun x o e q=>by have:=vK [a] (h:=s.heap) (b:=x) (by rw [q];exact qC.mpr rfl);rw [this] at e;cases e
 refine yVp (s:={s with heap:=H}) (κ:=κ) (X:=X) (Bad:=fun e h''=>X3 fun ex m t=>A3 (e=.ref ex) (Heap.MadeExc H h'' ex "TypeError" [.str m t]) (Wd m)) (fun h'=>h'=H) rfl h128 o ne (fun h2 Q q=>hkind h2 _ Q st q) (fun i j Q tk0 hi hj hq=>?_) (fun st' tk Q hf hq=>qI (hq H ha3 rfl)) (fun st' e h'' tk hf hb=>?_) ?_
 ·exact hcmp i j Q _ {s with heap:=H,toks:=tk0} hi hj st hq fun h' tk e m t hx hw=>⟨h',tk,rfl,e,m,t,rfl,hx,hw⟩
 ·obtain ⟨ex,m,t,rfl,hx,hw⟩:=hb
  exact qI ⟨h'',tk,rfl,hx.keeps _ _ ha3,fun h' hs=>hE (hideAll H [a]) h' tk ex m t (fun x o e=>vJ _ (st x o e) fun z=>off x o e (qC.mp z)) (made_hide hx ha3 hs) hw⟩
 ·rintro ord ha2 h' tk c ho rfl hsb hc
  exact h ord h' tk c ho (fun x o e=>hsb.extBut x o (off x o e) (st x o e)) hc
end
theorem ltK_tot {j:Nat} {u v:It} (h1:ltK j u v=false) (h2:ltK j v u=false):u.i=v.i:=
 have h1:=yCj.mp h1
 have h2:=yCj.mp h2
 Int.le_antisymm (Int.not_lt.mp (h2.2 (Int.le_antisymm h1.1 h2.1))) (Int.not_lt.mp (h1.2 (Int.le_antisymm h2.1 h1.1)))
theorem nodup_ij {its:List It} (hd:(its.map It.i).Nodup) {i j:Nat} (hi:i < its.length) (hj:j < its.length) (e:(its.getD i it0).i=(its.getD j it0).i):i=j:=by
 have hd':=pairwise_iff_getElem.mp hd
 rcases lt_trichotomy i j with h | h | h
 ·exact absurd (by simpa [hi,hj] using e) (hd' i j (by simpa using hi) (by simpa using hj) h)
 ·exact h
 ·exact absurd (by simpa [hi,hj] using e.symm) (hd' j i (by simpa using hj) (by simpa using hi) h)
theorem ordered_its {jj:Nat} {its:List It} {rev:Bool} {ord:List Nat} (hd:(its.map It.i).Nodup) (ho:yQw (fun i j=>ltK jj (its.getD i it0) (its.getD j it0)) rev its.length ord):
  (ord.map fun i=>its.getD i it0).Perm its/\(ord.map fun i=>its.getD i it0).Pairwise (fun a b=>if rev then ltK jj b a=true else ltK jj a b=true):=by
 refine ⟨?_,?_⟩
 ·refine (ho.1.map _).trans ?_
  have:(List.range its.length).map (fun i=>its.getD i it0)=its:=by
   apply ext_getElem
   ·simp
   ·intro i hi hj
    simp [hj]
  rw [this]
 ·rw [pairwise_map]
  have hm:∀ x∈ord,x < its.length:=fun x hx=>by simpa using ho.1.mem_iff.mp hx
  have hnd:ord.Nodup:=ho.1.nodup_iff.mpr nodup_range
  refine List.Pairwise.imp_of_mem ?_ (List.Pairwise.and hnd ho.2)
  rintro a b ha hb ⟨hne,h⟩
  have hi:(its.getD a it0).i≠(its.getD b it0).i:=fun q=>by
   exact hne (nodup_ij hd (hm a ha) (hm b hb) q)
  cases rev with
  | false=>
   simp only [wH,if_false] at h ⊢
   rcases h with h | ⟨h,_⟩
   ·exact h
   ·cases q:ltK jj (its.getD a it0) (its.getD b it0) with
    | true=>rfl
    | false=>exact absurd (ltK_tot q h) hi
  | true=>
   simp only [if_true] at h ⊢
   rcases h with h | ⟨h,_⟩
   ·exact h
   ·cases q:ltK jj (its.getD b it0) (its.getD a it0) with
    | true=>rfl
    | false=>exact absurd (ltK_tot h q) hi
section
variable {A:Around} {E:VS} {s:Shared} {b:Heap}
theorem yXw {v:Value} {Q:Bool->Shared->Prop} (h:Q true s):wpAny (model prog w) A (eqBool v v) Q E s:=by
 unfold eqBool
 refine wpAny_holding ?_
 rw [qN (by simp)]
 exact qA (vI (qI h))
theorem yYu {κ:SortKind} {D:Addr} {its:List It} {n:Nat} {rev:Bool} {P:PySem.Fin->Shared->Prop} {Y:(It->It->Bool)->Prop} {Wd:Str->Prop} (hY:∀ f,Y f->∃ j,f=ltK j) (ne:∃ f,Y f) (hD:s.heap.get? D=some (listOf (its.map It.v).toArray n)) (h128:its.length < 128) (hd:(its.map It.i).Nodup)
  (hkind:2<=its.length->∀ (s':Shared) (Q:SortKind->Shared->Prop),(hideAll s.heap [D]).StaysIn s'.heap->Q κ s'->wpAny (model prog w) A (keyKind' (its.map It.v).toArray) Q E s')
  (hcmp:∀ u∈its,∀ v∈its,∀ (Q:Bool->Shared->Prop) (E':VS) (s':Shared),(hideAll s.heap [D]).StaysIn s'.heap->(∀ bb tk,(∀ f,Y f->f u v=bb)->Q bb { s' with toks:=tk })->
   (∀ h' tk e m t,Heap.MadeExc s'.heap h' e "TypeError" [.str m t]->Wd m->E' (.ref e) { s' with heap:=h',toks:=tk })->wpAny (model prog w) A (keyLt' κ u.v v.v) Q E' s')
  (h:∀ (zs:List It) h' tk c,zs.Perm its->(∀ f,Y f->zs.Pairwise (fun a b=>if rev then f b a=true else f a b=true))->(hideAll s.heap [D]).StaysIn h'->h'.get? D=some (listOf (zs.map It.v).toArray c)->P (.done (.ret .none)) {s with heap:=h',toks:=tk})
  (hE:∀ H h' tk e m t,(hideAll s.heap [D]).StaysIn H->Heap.MadeExc H h' e "TypeError" [.str m t]->Wd m->E (.ref e) {s with heap:=h',toks:=tk}):
  wpAny (model prog w) A (so_plain D rev) P E s:=by
 have gv:∀ i,i < its.length->(its.map It.v).getD i .none=(its.getD i it0).v:=fun i hi=>by simp [hi]
 obtain ⟨f0,hf0⟩:=ne
 refine yJE (X:=fun f'=>∃ f,Y f/\f'=fun i j=>f (its.getD i it0) (its.getD j it0)) (Wd:=Wd) (κ:=κ) hD (by simpa using h128) (by rintro f' ⟨f,hf,rfl⟩;obtain ⟨j,rfl⟩:=hY f hf;exact ⟨fun a b=>yXr,fun a b c=>yYS⟩) ⟨_,f0,hf0,rfl⟩ (fun h2 s' Q st q=>hkind (by simpa using h2) s' Q st q) (fun i j Q E' s' hi hj st q qE=>?_) ?_ hE
 ·have hi':i < its.length:=by simpa using hi
  have hj':j < its.length:=by simpa using hj
  rw [gv i hi',gv j hj']
  exact hcmp _ (getD_mem hi') _ (getD_mem hj') Q E' s' st (fun bb tk hb=>q bb tk (by rintro f' ⟨f,hf,rfl⟩;exact hb f hf)) qE
 ·intro ord h' tk c ho st hc
  simp only [length_map] at ho
  have ho0:=ho _ ⟨f0,hf0,rfl⟩
  have pp:(ord.map fun i=>its.getD i it0).Perm its:=by
   obtain ⟨j,rfl⟩:=hY f0 hf0
   exact (ordered_its hd ho0).1
  refine h _ h' tk c pp (fun f hf=>?_) st ?_
  ·obtain ⟨j,rfl⟩:=hY f hf
   exact (ordered_its hd (ho _ ⟨_,hf,rfl⟩)).2
  ·rw [hc]
   have hm:∀ x∈ord,x < its.length:=fun x hx=>by simpa using ho0.1.mem_iff.mp hx
   have:(ord.map fun i=>(its.map It.v).getD i .none)=(ord.map fun i=>its.getD i it0).map It.v:=by
    rw [List.map_map]
    exact map_congr_left fun i hi=>gv i (hm i hi)
   rw [this]
end
inductive Rw where
 | num (z:Int)
 | boo (b:Bool)
 | txt (k:Nat)
 | thorn
noncomputable def Rw.t:Rw->Bool
 | .txt _=>true
 | _=>false
noncomputable def Rw.kd:Rw->String
 | .txt _=>"str"
 | .boo _=>"bool"
 | _=>"int"
noncomputable def txS (k:Nat):Str:=Str.ofString (toString (k:Int))
noncomputable def rk (k:Nat):Nat:=((List.range 30).filter fun j=>decide ((txS j).cps.toList < (txS k).cps.toList)).length
noncomputable def Rw.z:Rw->Int
 | .num z=>z
 | .boo b=>if b then 1 else 0
 | .txt k=>rk k
 | .thorn=>0
def IsV (v:Value):Rw->Prop
 | .num z=>∃ t,v=.int z t
 | .boo b=>v=.bool b
 | .txt k=>k < 30/\∃ t,v=.str (txS k) t
 | .thorn=>False
theorem rk_lt:∀ a,a < 30->∀ b,b < 30->(decide ((txS a).cps.toList < (txS b).cps.toList)=decide (rk a < rk b)/\(txS a == txS b)=decide (rk a=rk b)):=by
 decide +kernel
theorem rk_t {a b:Nat} (ha:a < 30) (hb:b < 30):decide ((txS a).cps.toList < (txS b).cps.toList)=decide ((rk a:Int) < (rk b:Int)):=by
 rw [(rk_lt a ha b hb).1];exact decide_eq_decide.mpr Int.ofNat_lt.symm
section
variable {A:Around} {E:VS} {s:Shared} {u v:Value} {a b:Rw} {Q:VS}
theorem ilt_bb (a b:Bool):Gives (Builtin.«int.__lt__» ⟨[.bool a,.bool b],[]⟩) (.val (Value.bool ((fun x1 x2=>decide (x1 < x2)) (if a=true then (1:Int) else 0) (if b=true then (1:Int) else 0)))):=
 .of_wp fun M A E s Q h=>by obtain ⟨hp,g,d,tk,os⟩:=s;wp_walk;exact ⟨_,rfl,h⟩
theorem ilt_bi (a:Bool) (b:Int) (u:Tok):Gives (Builtin.«int.__lt__» ⟨[.bool a,.int b u],[]⟩) (.val (Value.bool ((fun x1 x2=>decide (x1 < x2)) (if a=true then (1:Int) else 0) b))):=
 .of_wp fun M A E s Q h=>by obtain ⟨hp,g,d,tk,os⟩:=s;wp_walk;exact ⟨_,rfl,h⟩
theorem igt_bb (a b:Bool):Gives (Builtin.«int.__gt__» ⟨[.bool a,.bool b],[]⟩) (.val (Value.bool ((fun x1 x2=>decide (x1 > x2)) (if a=true then (1:Int) else 0) (if b=true then (1:Int) else 0)))):=
 .of_wp fun M A E s Q h=>by obtain ⟨hp,g,d,tk,os⟩:=s;wp_walk;exact ⟨_,rfl,h⟩
theorem igt_bi (a:Bool) (b:Int) (u:Tok):Gives (Builtin.«int.__gt__» ⟨[.bool a,.int b u],[]⟩) (.val (Value.bool ((fun x1 x2=>decide (x1 > x2)) (if a=true then (1:Int) else 0) b))):=
 .of_wp fun M A E s Q h=>by obtain ⟨hp,g,d,tk,os⟩:=s;wp_walk;exact ⟨_,rfl,h⟩
theorem ilt_bs (a:Bool) (b:Str) (u:Tok):Gives (Builtin.«int.__lt__» ⟨[.bool a,.str b u],[]⟩) (.val Value.notImplemented):=
 .of_wp fun M A E s Q h=>by obtain ⟨hp,g,d,tk,os⟩:=s;wp_walk;exact ⟨_,rfl,h⟩
theorem igt_bs (a:Bool) (b:Str) (u:Tok):Gives (Builtin.«int.__gt__» ⟨[.bool a,.str b u],[]⟩) (.val Value.notImplemented):=
 .of_wp fun M A E s Q h=>by obtain ⟨hp,g,d,tk,os⟩:=s;wp_walk;exact ⟨_,rfl,h⟩
theorem slt_sb (a:Str) (t:Tok) (b:Bool):Gives (Builtin.«str.__lt__» ⟨[.str a t,.bool b],[]⟩) (.val Value.notImplemented):=
 .of_wp fun M A E s Q h=>by obtain ⟨hp,g,d,tk,os⟩:=s;wp_walk;exact ⟨_,rfl,h⟩
theorem sgt_sb (a:Str) (t:Tok) (b:Bool):Gives (Builtin.«str.__gt__» ⟨[.str a t,.bool b],[]⟩) (.val Value.notImplemented):=
 .of_wp fun M A E s Q h=>by obtain ⟨hp,g,d,tk,os⟩:=s;wp_walk;exact ⟨_,rfl,h⟩
theorem yXa (hu:IsV u a) (hv:IsV v b) (ht:a.t=b.t) (h:Q (.bool (decide (a.z < b.z))) s):wpAny (model prog w) A (call (.builtin (if a.t then "str.__lt__" else "int.__lt__")) [u,v]) (fun v s'=>v≠.notImplemented/\Q v s') E s:=by
 cases a<;>cases b<;>first | exact hu.elim | exact hv.elim | cases ht | skip
 ·obtain ⟨t,rfl⟩:=hu;obtain ⟨t',rfl⟩:=hv
  show wpAny _ _ (call (.builtin "int.__lt__") _) _ _ _
  exact call_gives slot_int_lt (typeIs_int s _ t) entry_int_lt (args_int_lt _ _) (gives_int_lt _ _ t t') ⟨(fun z=>by cases z),h⟩
 ·obtain ⟨t,rfl⟩:=hu;cases hv
  show wpAny _ _ (call (.builtin "int.__lt__") _) _ _ _
  exact call_gives slot_int_lt (typeIs_int s _ t) entry_int_lt (args_int_lt _ _) (AutoIntG9.int___lt___int_bool_0 _ t _) ⟨(fun z=>by cases z),h⟩
 ·cases hu;obtain ⟨t',rfl⟩:=hv
  show wpAny _ _ (call (.builtin "int.__lt__") _) _ _ _
  exact call_gives F.slot_bool_lt rfl entry_int_lt (args_int_lt _ _) (ilt_bi _ _ t') ⟨(fun z=>by cases z),h⟩
 ·cases hu;cases hv
  show wpAny _ _ (call (.builtin "int.__lt__") _) _ _ _
  exact call_gives F.slot_bool_lt rfl entry_int_lt (args_int_lt _ _) (ilt_bb _ _) ⟨(fun z=>by cases z),h⟩
 ·obtain ⟨h1,t,rfl⟩:=hu;obtain ⟨h2,t',rfl⟩:=hv
  show wpAny _ _ (call (.builtin "str.__lt__") _) _ _ _
  exact call_gives slot_str_lt (typeIs_str s _ t) entry_str_lt (args_str_lt _ _) (gives_str_lt _ _ t t') ⟨(fun z=>by cases z),by rw [rk_t h1 h2];exact h⟩
theorem yZz (hu:IsV u a) (hv:IsV v b) (ht:a.t=b.t) (h:Q (.bool (decide (b.z < a.z))) s):wpAny (model prog w) A (call (.builtin (if a.t then "str.__gt__" else "int.__gt__")) [u,v]) (fun v s'=>v≠.notImplemented/\Q v s') E s:=by
 cases a<;>cases b<;>first | exact hu.elim | exact hv.elim | cases ht | skip
 ·obtain ⟨t,rfl⟩:=hu;obtain ⟨t',rfl⟩:=hv
  show wpAny _ _ (call (.builtin "int.__gt__") _) _ _ _
  exact call_gives F.slot_int_gt (typeIs_int s _ t) F.entry_int_gt (F.args_int_gt_2 _ _) (gives_int_gt _ _ t t') ⟨(fun z=>by cases z),h⟩
 ·obtain ⟨t,rfl⟩:=hu;cases hv
  show wpAny _ _ (call (.builtin "int.__gt__") _) _ _ _
  exact call_gives F.slot_int_gt (typeIs_int s _ t) F.entry_int_gt (F.args_int_gt_2 _ _) (AutoIntG2.int___gt___int_bool_0 _ t _) ⟨(fun z=>by cases z),h⟩
 ·cases hu;obtain ⟨t',rfl⟩:=hv
  show wpAny _ _ (call (.builtin "int.__gt__") _) _ _ _
  exact call_gives F.slot_bool_gt rfl F.entry_int_gt (F.args_int_gt_2 _ _) (igt_bi _ _ t') ⟨(fun z=>by cases z),h⟩
 ·cases hu;cases hv
  show wpAny _ _ (call (.builtin "int.__gt__") _) _ _ _
  exact call_gives F.slot_bool_gt rfl F.entry_int_gt (F.args_int_gt_2 _ _) (igt_bb _ _) ⟨(fun z=>by cases z),h⟩
 ·obtain ⟨h1,t,rfl⟩:=hu;obtain ⟨h2,t',rfl⟩:=hv
  show wpAny _ _ (call (.builtin "str.__gt__") _) _ _ _
  exact call_gives F.slot_str_gt (typeIs_str s _ t) F.entry_str_gt (PyProof.Rows.args_str_gt _ _) (gives_str_gt _ _ t t') ⟨(fun z=>by cases z),by rw [rk_t h2 h1];exact h⟩
theorem rich_lt_same (hu:IsV u a) (hv:IsV v b) (ht:a.t=b.t) (h:Q (.bool (decide (a.z < b.z))) s):wpAny (model prog w) A (richCompare .Lt u v) Q E s:=by
 have k:=yXa (A:=A) (E:=E) hu hv ht h
 have kg:=yZz (A:=A) (E:=E) hv hu ht.symm h
 cases a<;>cases b<;>first | exact hu.elim | exact hv.elim | cases ht | skip
 ·obtain ⟨t,rfl⟩:=hu;obtain ⟨t',rfl⟩:=hv
  exact wpAny_richCompare_same (typeIs_int s _ t) (typeIs_int s _ t') slot_int_lt k
 ·obtain ⟨t,rfl⟩:=hu;cases hv
  exact SeqAt.rc_sub_first_or (typeIs_int s _ t) rfl (by decide) F.sub_bool_int F.slot_bool_gt_refl kg (.inl rfl)
 ·cases hu;obtain ⟨t',rfl⟩:=hv
  exact SeqAt.rc_left_or rfl (typeIs_int s _ t') (by decide) F.sub_int_bool F.slot_bool_lt k (.inl rfl)
 ·cases hu;cases hv
  exact wpAny_richCompare_same rfl rfl F.slot_bool_lt k
 ·obtain ⟨h1,t,rfl⟩:=hu;obtain ⟨h2,t',rfl⟩:=hv
  exact wpAny_richCompare_same (typeIs_str s _ t) (typeIs_str s _ t') slot_str_lt k
theorem yVT (hu:IsV u a) (hv:IsV v b) (ht:a.t=b.t) (h:Q (.bool (decide (b.z < a.z))) s):wpAny (model prog w) A (richCompare .Gt u v) Q E s:=by
 have k:=yZz (A:=A) (E:=E) hu hv ht h
 have kg:=yXa (A:=A) (E:=E) hv hu ht.symm h
 cases a<;>cases b<;>first | exact hu.elim | exact hv.elim | cases ht | skip
 ·obtain ⟨t,rfl⟩:=hu;obtain ⟨t',rfl⟩:=hv
  exact wpAny_richCompare_same (typeIs_int s _ t) (typeIs_int s _ t') F.slot_int_gt k
 ·obtain ⟨t,rfl⟩:=hu;cases hv
  exact SeqAt.rc_sub_first_or (typeIs_int s _ t) rfl (by decide) F.sub_bool_int F.slot_bool_lt_refl kg (.inl rfl)
 ·cases hu;obtain ⟨t',rfl⟩:=hv
  exact SeqAt.rc_left_or rfl (typeIs_int s _ t') (by decide) F.sub_int_bool F.slot_bool_gt k (.inl rfl)
 ·cases hu;cases hv
  exact wpAny_richCompare_same rfl rfl F.slot_bool_gt k
 ·obtain ⟨h1,t,rfl⟩:=hu;obtain ⟨h2,t',rfl⟩:=hv
  exact wpAny_richCompare_same (typeIs_str s _ t) (typeIs_str s _ t') F.slot_str_gt k
noncomputable def wds (sy x y:String):Str:=Str.ofString ("'"++sy++"' not supported between instances of '"++x++"' and '"++y++"'")
theorem yQP:shownName "bool"="bool":=by decide +kernel
theorem yQx {sy x y:String} (hx:shownName x=x) (hy:shownName y=y):Str.ofString (toString "'"++toString sy++toString "' not supported between instances of '"++toString (shownName x)++toString "' and '"++toString (shownName y)++toString "'")=wds sy x y:=by
 rw [hx,hy];rfl
def Cl (A:Around) (s:Shared) (E:VS) (m:Str):Prop:=A.handled=none/\∀ h' tk e t,Heap.MadeExc s.heap h' e "TypeError" [.str m t]->E (.ref e) {s with heap:=h',toks:=tk}
theorem yQF {g:Bool} (hu:IsV u a) (hv:IsV v b) (ht:a.t≠b.t) (h:Cl A s E (wds (if g then ">" else "<") a.kd b.kd)):wpAny (model prog w) A (richCompare (if g then .Gt else .Lt) u v) Q E s:=by
 obtain ⟨hh,h⟩:=h
 cases a<;>cases b<;>first | exact hu.elim | exact hv.elim | exact absurd rfl ht | skip
 ·obtain ⟨t,rfl⟩:=hu;obtain ⟨h2,t',rfl⟩:=hv
  cases g
  ·exact yQd (.inl rfl) rfl hh (fun s'=>typeIs_int s' _ t) (fun s'=>typeIs_str s' _ t') (by decide) isSubtype_str_int slot_int_lt F.slot_str_gt_refl (by decide) (by decide) (dec_int (.inl rfl)) (dec_str (.inr rfl)) (by rw [yQx yQM yQp];exact h) rfl (by rw [yQx yQM yQp];decide +kernel)
  ·exact yQd (.inr rfl) rfl hh (fun s'=>typeIs_int s' _ t) (fun s'=>typeIs_str s' _ t') (by decide) isSubtype_str_int F.slot_int_gt F.slot_str_lt_refl (by decide) (by decide) (dec_int (.inr rfl)) (dec_str (.inl rfl)) (by rw [yQx yQM yQp];exact h) rfl (by rw [yQx yQM yQp];decide +kernel)
 ·cases hu;obtain ⟨h2,t',rfl⟩:=hv
  cases g
  ·exact yQd (.inl rfl) rfl hh (fun s'=>rfl) (fun s'=>typeIs_str s' _ t') (by decide) F.sub_str_bool F.slot_bool_lt F.slot_str_gt_refl (by decide) (by decide) (call_gives F.slot_bool_lt rfl entry_int_lt (args_int_lt _ _) (ilt_bs _ _ t') ⟨rfl,rfl⟩) (call_gives F.slot_str_gt (typeIs_str s _ t') F.entry_str_gt (PyProof.Rows.args_str_gt _ _) (sgt_sb _ t' _) ⟨rfl,rfl⟩) (by rw [yQx yQP yQp];exact h) rfl (by rw [yQx yQP yQp];decide +kernel)
  ·exact yQd (.inr rfl) rfl hh (fun s'=>rfl) (fun s'=>typeIs_str s' _ t') (by decide) F.sub_str_bool F.slot_bool_gt F.slot_str_lt_refl (by decide) (by decide) (call_gives F.slot_bool_gt rfl F.entry_int_gt (F.args_int_gt_2 _ _) (igt_bs _ _ t') ⟨rfl,rfl⟩) (call_gives slot_str_lt (typeIs_str s _ t') entry_str_lt (args_str_lt _ _) (slt_sb _ t' _) ⟨rfl,rfl⟩) (by rw [yQx yQP yQp];exact h) rfl (by rw [yQx yQP yQp];decide +kernel)
 ·obtain ⟨h2,t',rfl⟩:=hu;obtain ⟨t,rfl⟩:=hv
  cases g
  ·exact yQd (.inl rfl) rfl hh (fun s'=>typeIs_str s' _ t') (fun s'=>typeIs_int s' _ t) (by decide) yQJ slot_str_lt F.slot_int_gt_refl (by decide) (by decide) (dec_str (.inl rfl)) (dec_int (.inr rfl)) (by rw [yQx yQp yQM];exact h) rfl (by rw [yQx yQp yQM];decide +kernel)
  ·exact yQd (.inr rfl) rfl hh (fun s'=>typeIs_str s' _ t') (fun s'=>typeIs_int s' _ t) (by decide) yQJ F.slot_str_gt F.slot_int_lt_refl (by decide) (by decide) (dec_str (.inr rfl)) (dec_int (.inl rfl)) (by rw [yQx yQp yQM];exact h) rfl (by rw [yQx yQp yQM];decide +kernel)
 ·obtain ⟨h2,t',rfl⟩:=hu;cases hv
  cases g
  ·exact yQd (.inl rfl) rfl hh (fun s'=>typeIs_str s' _ t') (fun s'=>rfl) (by decide) F.sub_bool_str slot_str_lt F.slot_bool_gt_refl (by decide) (by decide) (call_gives slot_str_lt (typeIs_str s _ t') entry_str_lt (args_str_lt _ _) (slt_sb _ t' _) ⟨rfl,rfl⟩) (call_gives F.slot_bool_gt rfl F.entry_int_gt (F.args_int_gt_2 _ _) (igt_bs _ _ t') ⟨rfl,rfl⟩) (by rw [yQx yQp yQP];exact h) rfl (by rw [yQx yQp yQP];decide +kernel)
  ·exact yQd (.inr rfl) rfl hh (fun s'=>typeIs_str s' _ t') (fun s'=>rfl) (by decide) F.sub_bool_str F.slot_str_gt F.slot_bool_lt_refl (by decide) (by decide) (call_gives F.slot_str_gt (typeIs_str s _ t') F.entry_str_gt (PyProof.Rows.args_str_gt _ _) (sgt_sb _ t' _) ⟨rfl,rfl⟩) (call_gives F.slot_bool_lt rfl entry_int_lt (args_int_lt _ _) (ilt_bs _ _ t') ⟨rfl,rfl⟩) (by rw [yQx yQp yQP];exact h) rfl (by rw [yQx yQp yQP];decide +kernel)
theorem kd_t {a b:Rw} (h:a.kd=b.kd):a.t=b.t:=by cases a<;>cases b<;>first | rfl | (simp [Rw.kd] at h;done)
theorem yXm {R:Bool->Shared->Prop} (hu:IsV u a) (hv:IsV v b) (hk:a.kd=b.kd) (h:R (decide (a.z < b.z)) s):wpAny (model prog w) A (oneLt' true u v) R E s:=by
 have ht:a.t=b.t:=kd_t hk
 have k:=yXa (A:=A) (E:=E) (Q:=fun v s'=>v=.bool (decide (a.z < b.z))/\s'=s) hu hv ht ⟨rfl,rfl⟩
 rw [oneLt'_eq]
 simp only [if_true]
 have fin:wpAny (model prog w) A (callSpecialIfBound? u "__lt__" [v]) (fun o s'=>o=some (.bool (decide (a.z < b.z)))/\s'=s) E s:=by
  cases a<;>cases b<;>first | exact hu.elim | exact hv.elim | (simp [Rw.kd] at hk;done) | skip
  ·obtain ⟨t,rfl⟩:=hu
   exact wpAny_callSpecialIfBound?_slot (typeIs_int s _ t) slot_int_lt (qL k (fun v s' q=>⟨by rw [q.2.1],q.2.2⟩) fun _ _ e=>e)
  ·cases hu
   exact wpAny_callSpecialIfBound?_slot rfl F.slot_bool_lt (qL k (fun v s' q=>⟨by rw [q.2.1],q.2.2⟩) fun _ _ e=>e)
  ·obtain ⟨_,t,rfl⟩:=hu
   exact wpAny_callSpecialIfBound?_slot (typeIs_str s _ t) slot_str_lt (qL k (fun v s' q=>⟨by rw [q.2.1],q.2.2⟩) fun _ _ e=>e)
 have off:[u,v].any Value.onHeap=false:=by
  cases a<;>cases b<;>first | exact hu.elim | exact hv.elim | (simp [Rw.kd] at hk;done) | skip
  ·obtain ⟨t,rfl⟩:=hu;obtain ⟨t',rfl⟩:=hv;rfl
  ·cases hu;cases hv;rfl
  ·obtain ⟨_,t,rfl⟩:=hu;obtain ⟨_,t',rfl⟩:=hv;rfl
 refine qA (wpAny_cRoomFor_or (.inl off) (qA (qL fin (fun o s' q=>?_) fun _ _ e=>e)))
 obtain ⟨rfl,rfl⟩:=q
 exact qA (wpAny_truthy_bool (qI h))
theorem yYG {R:Bool->Shared->Prop} (hu:IsV u a) (hv:IsV v b) (h:a.t=b.t->R (decide (a.z < b.z)) s) (hE:a.t≠b.t->Cl A s E (wds "<" a.kd b.kd)):wpAny (model prog w) A (oneLt' false u v) R E s:=by
 refine kat_one _ _ ?_
 show wpAny _ _ (richCompare .Lt u v) _ _ _
 by_cases ht:a.t=b.t
 ·exact rich_lt_same hu hv ht (h ht)
 ·exact yQF (g:=false) hu hv ht (hE ht)
theorem yBK (a b:Int):(a == b)=decide (a=b):=by by_cases q:a=b<;>simp [q]
set_option tactic.hygienic true in
theorem yBd {R:Bool->Shared->Prop} (hu:IsV u a) (hv:IsV v b) (h:R (decide (a.t=b.t/\a.z=b.z)) s):wpAny (model prog w) A (eqBool u v) R E s:=by
 cases a<;>cases b<;>first | exact hu.elim | exact hv.elim | skip
 ·obtain ⟨t,rfl⟩:=hu;obtain ⟨t',rfl⟩:=hv
  exact SeqAt.EqAt.int_int _ t _ t' prog w E R (by simpa [Rw.t,Rw.z,yBK] using h)
 ·obtain ⟨t,rfl⟩:=hu;cases hv
  exact SeqAt.EqAt.int_bool _ t _ prog w E R (by simpa [Rw.t,Rw.z,yBK] using h)
 ·obtain ⟨t,rfl⟩:=hu;obtain ⟨_,t',rfl⟩:=hv
  exact SeqAt.EqAt.int_str _ t _ t' prog w E R (by simpa [Rw.t,Rw.z] using h)
 ·cases hu;obtain ⟨t',rfl⟩:=hv
  exact SeqAt.EqAt.bool_int _ _ t' prog w E R (by simpa [Rw.t,Rw.z,yBK] using h)
 ·cases hu;cases hv
  rename_i x y
  exact SeqAt.EqAt.bool_bool _ _ prog w E R (by cases x<;>cases y<;>simpa [Rw.t,Rw.z] using h)
 ·cases hu;obtain ⟨_,t',rfl⟩:=hv
  exact SeqAt.EqAt.bool_str _ _ t' prog w E R (by simpa [Rw.t,Rw.z] using h)
 ·obtain ⟨_,t,rfl⟩:=hu;obtain ⟨t',rfl⟩:=hv
  exact SeqAt.EqAt.str_int _ t _ t' prog w E R (by simpa [Rw.t,Rw.z] using h)
 ·obtain ⟨_,t,rfl⟩:=hu;cases hv
  exact SeqAt.EqAt.str_bool _ t _ prog w E R (by simpa [Rw.t,Rw.z] using h)
 ·obtain ⟨h1,t,rfl⟩:=hu;obtain ⟨h2,t',rfl⟩:=hv
  refine SeqAt.EqAt.str_str _ t _ t' prog w E R ?_
  rw [(rk_lt _ h1 _ h2).2]
  simpa [Rw.t,Rw.z,Int.ofNat_inj] using h
end
noncomputable def sc (M:Int) (j:Nat) (r:Rw):Int:=if r.t then (if j=0 then M+1+r.z else r.z - M - 31) else r.z
theorem sc_lt {M:Int} {j:Nat} {a b:Rw} (h:a.t=b.t):(sc M j a < sc M j b)↔a.z < b.z:=by
 unfold sc;rw [<- h]
 cases a.t<;>simp only [wH,if_false,if_true]
 split
 ·exact Int.add_lt_add_iff_left (M+1)
 ·rw [Int.sub_lt_sub_right_iff,Int.sub_lt_sub_right_iff]
theorem sc_eq {M:Int} {j:Nat} {a b:Rw} (h:a.t=b.t):(sc M j a=sc M j b)↔a.z=b.z:=by
 unfold sc;rw [<- h]
 cases a.t<;>simp only [wH,if_false,if_true]
 split
 ·exact ⟨fun q=>by lia,fun q=>by rw [q]⟩
 ·exact ⟨fun q=>by lia,fun q=>by rw [q]⟩
def WdK (G:Rw->Prop) (m:Str):Prop:=X2 fun a b=>A4 (G a) (G b) (a.t≠b.t) (m=wds "<" a.kd b.kd)
def Val (M:Int) (G:Rw->Prop) (b:Heap) (u:It):Prop:=X6 fun T ti m kv r rest=>A6 (u.v=.ref T) (b.get? T=some { cls:=.type "tuple",data:=.seq (kv::.int u.i ti::rest).toArray m }) (IsV kv r) (G r) (u.k.getD 0 0=sc M 0 r/\u.k.getD 1 0=sc M 1 r) (rest=[]\/∃ x,rest=[x])
theorem Val.keeps {M:Int} {G:Rw->Prop} {b b':Heap} {u:It} (x:Val M G b u) (k:b.StaysIn b'):Val M G b' u:=by
 obtain ⟨T,ti,m,kv,r,rest,h1,h2,h3,h4,h5,h6⟩:=x
 exact ⟨T,ti,m,kv,r,rest,h1,k _ _ h2,h3,h4,h5,h6⟩
section
variable {A:Around} {E:VS} {s:Shared} {b:Heap} {M:Int} {G:Rw->Prop}
theorem yCr {u v:It} {r r':Rw} {j:Nat} (hu:u.k.getD j 0=sc M j r) (hv:v.k.getD j 0=sc M j r') (ht:r.t=r'.t):ltK j u v=if r.z=r'.z then decide (u.i < v.i) else decide (r.z < r'.z):=by
 unfold ltK
 rw [hu,hv]
 by_cases e:r.z=r'.z
 ·rw [qN e,decide_eq_true ((sc_eq ht).mpr e),Bool.true_and,decide_eq_false (by rw [(sc_eq (M:=M) (j:=j) ht).mpr e];exact Int.lt_irrefl _),Bool.false_or]
 ·rw [qM e,decide_eq_false (fun q=>e ((sc_eq ht).mp q)),Bool.false_and,Bool.or_false]
  exact decide_eq_decide.mpr (sc_lt ht)
theorem yJT {u v:It} {r r':Rw} (hu:u.k.getD 0 0=sc M 0 r/\u.k.getD 1 0=sc M 1 r) (hv:v.k.getD 0 0=sc M 0 r'/\v.k.getD 1 0=sc M 1 r') (ht:r.t=r'.t):∀ f,XI f->f u v=if r.z=r'.z then decide (u.i < v.i) else decide (r.z < r'.z):=by
 rintro f (rfl | rfl)
 ·exact yCr hu.1 hv.1 ht
 ·exact yCr hu.2 hv.2 ht
theorem yZq {S:It->Prop} (hS:∀ u,S u->Val M G b u) (inj:∀ u v,S u->S v->u.i=v.i->u=v):yZS prog w b S XI (WdK G):=by
 intro u v su sv A Q E s hu hA st h hE
 obtain ⟨T,ti,m,kv,r,rest,hv,hT,hk,hG,hs,hr⟩:=hS u su
 obtain ⟨T',ti',m',kv',r',rest',hv',hT',hk',hG',hs',hr'⟩:=hS v sv
 have hi:=inj u v su sv
 rw [hv,hv']
 refine yCy (vR hu (by decide)) (st _ _ hT) (st _ _ hT') ?_
 show wpAny _ _ (eqBool kv kv') _ _ _
 refine yBd hk hk' ?_
 by_cases e:r.t=r'.t/\r.z=r'.z
 ·rw [decide_eq_true e,qN rfl]
  have hx:=yJT hs hs' e.1
  rw [qN e.2] at hx
  show wpAny _ _ (eqBool (.int u.i ti) (.int v.i ti')) _ _ _
  refine yWU ?_
  by_cases e2:u.i=v.i
  ·have e3:=hi e2
   subst e3
   rw [hv] at hv';cases hv';rw [hT] at hT'
   injection hT' with hT';injection hT' with _ _ hT';injection hT' with hT'
   have h0:Q (.bool false) s:=h false s.toks fun f hf=>by rw [hx f hf];simp
   have hl:=wE Array.toList hT'
   simp at hl
   obtain ⟨rfl,rfl,rfl⟩:=hl
   rw [decide_eq_true rfl,qN rfl]
   rcases hr with rfl | ⟨y,rfl⟩
   ·show Q (.bool (decide (2 < 2))) s
    exact h0
   ·show wpAny _ _ (eqBool y y) _ _ _
    refine yXw ?_
    rw [qN rfl]
    show Q (.bool (decide (3 < 3))) s
    exact h0
  ·rw [decide_eq_false e2,qM (by decide)]
   exact rich_lt_int ⟨by simp,h _ s.toks hx⟩
 ·rw [decide_eq_false e,qM (by decide)]
  by_cases ht:r.t=r'.t
  ·have hx:=yJT hs hs' ht
   rw [qM fun q=>e ⟨ht,q⟩] at hx
   exact rich_lt_same hk hk' ht ⟨by simp,h _ s.toks hx⟩
  ·exact yQF (g:=false) hk hk' ht ⟨hA,fun h' tk e t hx=>hE h' tk e _ t hx ⟨r,r',hG,hG',ht,rfl⟩⟩
theorem yZd {o:Bool} {u v:It} {Q:Bool->Shared->Prop} (hA:A.handled=none) (pu:Val M G s.heap u) (pv:Val M G s.heap v) (ho:o=true->∀ r r',G r->G r'->r.kd=r'.kd) (hi:u.i=v.i->u=v) (h:∀ bb,(∀ f,XI f->f u v=bb)->Q bb s)
  (hE:∀ h' tk e m t,Heap.MadeExc s.heap h' e "TypeError" [.str m t]->WdK G m->E (.ref e) {s with heap:=h',toks:=tk}):wpAny (model prog w) A (keyLt' (tuples' o) u.v v.v) Q E s:=by
 obtain ⟨T,ti,m,kv,r,rest,hv,hT,hk,hG,hs,hr⟩:=pu
 obtain ⟨T',ti',m',kv',r',rest',hv',hT',hk',hG',hs',hr'⟩:=pv
 rw [hv,hv']
 refine yYm hT rfl hT' rfl ?_
 show wpAny _ _ (eqBool kv kv') _ _ _
 refine yBd hk hk' ?_
 by_cases e:r.t=r'.t/\r.z=r'.z
 ·rw [decide_eq_true e,qN rfl]
  have hx:=yJT hs hs' e.1
  rw [qN e.2] at hx
  show wpAny _ _ (eqBool (.int u.i ti) (.int v.i ti')) _ _ _
  refine yWU ?_
  by_cases e2:u.i=v.i
  ·have e3:=hi e2
   subst e3
   rw [hv] at hv';cases hv';rw [hT] at hT'
   injection hT' with hT';injection hT' with _ _ hT';injection hT' with hT'
   have h0:Q false s:=h false fun f hf=>by rw [hx f hf];simp
   have hl:=wE Array.toList hT'
   simp at hl
   obtain ⟨rfl,rfl,rfl⟩:=hl
   rw [decide_eq_true rfl,qN rfl]
   rcases hr with rfl | ⟨y,rfl⟩
   ·show Q (decide (2 < 2)) s
    exact h0
   ·show wpAny _ _ (eqBool y y) _ _ _
    refine yXw ?_
    rw [qN rfl]
    show Q (decide (3 < 3)) s
    exact h0
  ·rw [decide_eq_false e2,qM (by decide)]
   show wpAny _ _ (oneLt' (o && false) _ _) _ _ _
   rw [Bool.and_false]
   exact kat_one _ _ (lt_int (h _ hx))
 ·rw [decide_eq_false e,qM (by decide)]
  show wpAny _ _ (oneLt' (o && true) _ _) _ _ _
  rw [Bool.and_true]
  cases o with
  | true=>
   have hkd:=ho rfl r r' hG hG'
   have ht:r.t=r'.t:=kd_t hkd
   have hx:=yJT hs hs' ht
   rw [qM fun q=>e ⟨ht,q⟩] at hx
   exact yXm hk hk' hkd (h _ hx)
  | false=>
   refine yYG hk hk' (fun ht=>?_) fun ht=>⟨hA,fun h' tk e t hx=>hE h' tk e _ t hx ⟨r,r',hG,hG',ht,rfl⟩⟩
   have hx:=yJT hs hs' ht
   rw [qM fun q=>e ⟨ht,q⟩] at hx
   exact h _ hx
end
noncomputable def tyV:Value->Value
 | .bool _=>.type "bool"
 | .str _ _=>.type "str"
 | _=>.type "int"
theorem yXf {v:Value} {r:Rw} (h:IsV v r):tyV v=.type r.kd:=by
 cases r
 ·obtain ⟨t,rfl⟩:=h;rfl
 ·cases h;rfl
 ·obtain ⟨_,t,rfl⟩:=h;rfl
 ·exact h.elim
theorem yCw {a b:Rw} {u v:Value} (hu:IsV u a) (hv:IsV v b) (h:tyV u=tyV v):a.kd=b.kd:=by
 rw [yXf hu,yXf hv] at h;injection h
section
variable {M:Model} {A:Around} {E:VS} {s:Shared}
theorem mapM_g {β:Type} {f:Value->Sem β} {g:Value->β}:∀ (l:List Value) {Q:List β->Shared->Prop},(∀ v∈l,∀ Q':β->Shared->Prop,Q' (g v) s->wpAny M A (f v) Q' E s)->Q (l.map g) s->wpAny M A (l.mapM f) Q E s
 | [],_,_,h=>by rw [List.mapM_nil];exact qI h
 | v::l,Q,hf,h=>by
  rw [List.mapM_cons]
  exact qA (hf v (.head _) _ (qA (mapM_g l (Q:=fun bs s'=>wpAny M A (pure (g v::bs)) Q E s') (fun u hu=>hf u (.tail _ hu)) (qI h))))
theorem typeOf_is {v:Value} {r:Rw} (h:IsV v r) {Q:VS} (hq:Q (tyV v) s):wpAny M A (typeOf v) Q E s:=by
 cases r
 ·obtain ⟨t,rfl⟩:=h;exact wpAny_typeOf (typeIs_int s _ t) hq
 ·cases h;exact wpAny_typeOf (T:="bool") rfl hq
 ·obtain ⟨_,t,rfl⟩:=h;exact wpAny_typeOf (typeIs_str s _ t) hq
 ·exact h.elim
noncomputable def sameB:List Value->Bool
 | []=>false
 | f::l=>(List.map tyV (f::l)).toArray.all (· == tyV f)
theorem sameB_is {fs:List Value} (h:sameB fs=true):∀ u∈fs,∀ v∈fs,tyV u=tyV v:=by
 cases fs with
 | nil=>exact fun u hu=>nomatch hu
 | cons f l=>
  have k:∀ u∈f::l,tyV u=tyV f:=by
   intro u hu
   unfold sameB at h
   simp only [List.all_toArray,List.all_map,List.all_eq_true] at h
   exact eq_of_beq (h u hu)
  intro u hu v hv
  rw [k u hu,k v hv]
theorem one_types {fs:List Value} {Q:Option Value->Shared->Prop} (hne:0 < fs.length) (hf:∀ v∈fs,∃ r,IsV v r) (h:∀ o:Option Value,o.isSome=sameB fs->o.any (· != Value.type "tuple")=sameB fs->Q o s):wpAny M A (oneTypeOnly' fs.toArray) Q E s:=by
 rw [oneTypeOnly'_eq,List.mapM_toArray,map_eq_pure_bind]
 refine qA (qA (mapM_g (g:=tyV) fs (fun v hv Q' hq=>?_) (qI ?_)))
 ·obtain ⟨r,hr⟩:=hf v hv
  exact typeOf_is hr hq
 ·cases fs with
  | nil=>exact absurd hne (lt_irrefl _)
  | cons f l=>
   have h0:(List.map tyV (f::l)).toArray[0]?=some (tyV f):=by simp
   rw [h0]
   show wpAny _ _ (pure (if sameB (f::l)=true then some (tyV f) else none)) _ _ _
   obtain ⟨r,hr⟩:=hf f (.head _)
   cases z:sameB (f::l) with
   | true=>
    rw [qN rfl]
    refine qI (h _ z.symm ?_)
    rw [z,yXf hr]
    cases r<;>rfl
   | false=>
    rw [qM (by decide)]
    exact qI (h _ z.symm z.symm)
theorem yZa {vs:List Value} {Q:SortKind->Shared->Prop} (h2:2<=vs.length) (hf:∀ v∈vs,∃ r,IsV v r) (h:Q (if sameB vs=true then oneType' else general') s):wpAny M A (keyKind' vs.toArray) Q E s:=by
 obtain ⟨va1,va2,rest,rfl⟩:∃ va1 va2 rest,vs=va1::va2::rest:=by
  match vs,h2 with
  | [],h2=>simp at h2
  | [_],h2=>simp at h2
  | va1::va2::rest,_=>exact ⟨va1,va2,rest,rfl⟩
 rw [keyKind'_eq,List.mapM_toArray,map_eq_pure_bind]
 refine qA (qA (kas_mapM (r:=none) _ (fun v hv Q' hq=>?_) (qI ?_)))
 ·rw [kas_first_eq]
  obtain ⟨r,hr⟩:=hf v hv
  refine qA (typeOf_is hr ?_)
  rw [yXf hr,qN (by cases r<;>rfl)]
  exact qI hq
 ·rw [qM (by simp),qM (by simp)]
  refine qA (one_types (by simp) hf fun o ho _=>qI ?_)
  rw [ho]
  exact h
theorem yYZ {vs fs:List Value} {Q:SortKind->Shared->Prop} (t:KatTups s.heap vs fs) (hne:0 < fs.length) (hf:∀ v∈fs,∃ r,IsV v r) (h:Q (tuples' (sameB fs)) s):wpAny M A (keyKind' vs.toArray) Q E s:=by
 rw [kat_kind_eq,List.mapM_toArray,map_eq_pure_bind]
 refine qA (qA (kat_firsts vs _ t (qI ?_)))
 have hall:((fs.map some).toArray.all fun x=>x.isSome)=true:=by simp
 rw [qN hall]
 refine qA (vI ?_)
 have hfm:((fs.map some).toArray.filterMap id)=fs.toArray:=by simp
 rw [hfm]
 refine qA (one_types hne hf fun o _ ho=>qI ?_)
 rw [ho]
 exact h
end
section
variable {A:Around} {E:VS} {s:Shared} {b:Heap} {M:Int} {G:Rw->Prop}
theorem Val.weaken {G':Rw->Prop} {u:It} (x:Val M G b u) (k:∀ r,G r->G' r):Val M G' b u:=by
 obtain ⟨T,ti,m,kv,r,rest,h1,h2,h3,h4,h5,h6⟩:=x
 exact ⟨T,ti,m,kv,r,rest,h1,h2,h3,k _ h4,h5,h6⟩
theorem katK {h h':Heap} (st:h.StaysIn h') {vs fs:List Value} (x:KatTups h vs fs):KatTups h' vs fs:=by
 induction vs generalizing fs with
 | nil=>cases fs with
  | nil=>trivial
  | cons=>exact x.elim
 | cons v vs ih=>cases fs with
  | nil=>exact x.elim
  | cons f fs=>
   obtain ⟨⟨a,o,xs,n,h1,h2,h3⟩,r⟩:=x
   exact ⟨⟨a,o,xs,n,h1,st _ _ h2,h3⟩,ih r⟩
theorem yXe {h:Heap}:∀ its:List It,(∀ u∈its,Val M G h u)->∃ fs,A4 (fs.length=its.length) (KatTups h (its.map It.v) fs) (∀ v∈fs,∃ r,IsV v r/\G r) (∀ u∈its,Val M (fun r=>G r/\∃ v∈fs,IsV v r) h u)
 | [],_=>⟨[],⟨rfl,trivial,(fun v hv=>nomatch hv),(fun v hv=>nomatch hv)⟩⟩
 | u::l,hl=>by
  obtain ⟨T,ti,m,kv,r,rest,hv,hT,hk,hG,hs,hr⟩:=hl u (.head _)
  obtain ⟨fs,i0,i1,i2,i3⟩:=yXe l fun u' hu'=>hl u' (.tail _ hu')
  refine ⟨kv::fs,by simp [i0],⟨⟨T,_,_,m,hv,hT,rfl,rfl,rfl⟩,i1⟩,fun v hv=>?_,fun u' hu'=>?_⟩
  ·rcases qG.mp hv with rfl | hv
   ·exact ⟨r,hk,hG⟩
   ·exact i2 v hv
  ·rcases qG.mp hu' with rfl | hu'
   ·exact ⟨T,ti,m,kv,r,rest,hv,hT,hk,⟨hG,kv,.head _,hk⟩,hs,hr⟩
   ·exact (i3 u' hu').weaken fun r q=>⟨q.1,q.2.elim fun v z=>⟨v,.tail _ z.1,z.2⟩⟩
theorem yAh {D:Addr} {its:List It} {n:Nat} {rev:Bool} {P:PySem.Fin->Shared->Prop} (hA:A.handled=none) (hD:s.heap.get? D=some (listOf (its.map It.v).toArray n)) (h128:its.length < 128) (hd:(its.map It.i).Nodup) (hP:∀ u∈its,Val M G (hideAll s.heap [D]) u)
  (h:∀ (zs:List It) h' tk c,zs.Perm its->(∀ f,XI f->zs.Pairwise (fun a b=>if rev then f b a=true else f a b=true))->(hideAll s.heap [D]).StaysIn h'->h'.get? D=some (listOf (zs.map It.v).toArray c)->P (.done (.ret .none)) {s with heap:=h',toks:=tk})
  (hE:∀ H h' tk e m t,(hideAll s.heap [D]).StaysIn H->Heap.MadeExc H h' e "TypeError" [.str m t]->WdK G m->E (.ref e) {s with heap:=h',toks:=tk}):
  wpAny (model prog w) A (so_plain D rev) P E s:=by
 obtain ⟨fs,i0,i1,i2,i3⟩:=yXe its hP
 have inj:∀ u∈its,∀ v∈its,u.i=v.i->u=v:=fun u hu v hv e=>by
  obtain ⟨i,hi,rfl⟩:=getElem_of_mem hu
  obtain ⟨j,hj,rfl⟩:=getElem_of_mem hv
  have gi:its.getD i it0=its[i]:=by simp [hi]
  have gj:its.getD j it0=its[j]:=by simp [hj]
  have:=nodup_ij hd hi hj (by rw [gi,gj];exact e)
  subst this;rfl
 refine yYu (κ:=tuples' (sameB fs)) (Y:=XI) (Wd:=WdK G) (fun f hf=>?_) ⟨_,.inl rfl⟩ hD h128 hd (fun h2 s' Q st q=>?_) (fun u hu v hv Q E' s' st q qE=>?_) h hE
 ·rcases hf with rfl | rfl
  ·exact ⟨_,rfl⟩
  ·exact ⟨_,rfl⟩
 ·exact yYZ (katK st i1) (by rw [i0];exact qP (by decide) h2) (fun v hv=>(i2 v hv).elim fun r z=>⟨r,z.1⟩) q
 ·refine yZd (M:=M) (G:=fun r=>G r/\∃ v∈fs,IsV v r) hA ((i3 u hu).keeps st) ((i3 v hv).keeps st) (fun ho r r' hr hr'=>?_) (inj u hu v hv) (fun bb hb=>q bb s'.toks hb) fun h' tk e m t hx hm=>qE h' tk e m t hx ?_
  ·obtain ⟨_,x,hx,ix⟩:=hr
   obtain ⟨_,y,hy,iy⟩:=hr'
   exact yCw ix iy (sameB_is ho x hx y hy)
  ·obtain ⟨a,b,ha,hb,z1,z2⟩:=hm
   exact ⟨a,b,ha.1,hb.1,z1,z2⟩
end
def yQI (n:Nat) (o:Obj):Prop:=X2 fun items c=>o=listOf items c/\IntsAre items.toList ((List.range n).map Int.ofNat)
noncomputable def thW (k:Nat):Str:=Str.ofString "thorn "++txS k
theorem ff_up {B B':Heap} {outer:List Env} (hff:B.FunFrames (fb B outer) outer) (st:B.StaysIn B'):B'.FunFrames (fb B' outer) outer:=ff_base (ff_keep hff st) fun a ha=>vK _ ha
theorem fb_mono {B B':Heap} {outer:List Env} (st:B.StaysIn B'):(fb B outer).StaysIn (fb B' outer):=fun x o e=>vJ _ (st _ _ (vL _ e)) fun z=>by rw [show (fb B outer).get? x=none from vK _ z] at e;cases e
theorem yBb {h h' base:Heap} {l:List Env} (x:h.FunFrames base l) (k:∀ a∈framesOf l,h'.get? a=h.get? a):h'.FunFrames base l:=yWs x fun a ha _ n g=>⟨n,(k a ha).trans g⟩
theorem yQs.upd {T:String} {b:Heap} {outer:List Env} {h0 h h':Heap} {Wd:Str->Prop} {ex K:Addr} {oK:Obj} (fl:yQs T b outer h0 Wd ex h) (hK:b.get? K=some oK) (hf:K ∉ framesOf outer) (hs:Heap.SameBut K h h'):yQs T (hideAll b [K]) outer h0 Wd ex h':=by
 obtain ⟨t,m,tk,⟨f1,f2,f3,f4⟩,f5,f6,f7,f8⟩:=fl
 obtain ⟨oe,vs,TT,oT,ts,g1,g2,g3,g4,g5,g6,g7,g8,g9⟩:=f4
 have nK:∀ x,b.get? x=none->x≠K:=fun x q z=>by rw [z,hK] at q;cases q
 have hb:∀ x,b.get? x=none->(hideAll b [K]).get? x=none:=fun x q=>by
  cases z:(hideAll b [K]).get? x with
  | none=>rfl
  | some o=>rw [vL _ z] at q;cases q
 have hn:∀ a∈framesOf outer,∀ m,h.Ns a m->h'.Ns a m:=fun a ha m ⟨o,es,ep,ho,r⟩=>⟨o,es,ep,(hs.2 a fun z=>hf (by rw [<- z];exact ha)).trans ho,r⟩
 refine ⟨t,m,tk,⟨fun x o e=>(hs.2 x fun z=>?_).trans (f1 _ _ (vL _ e)),hb _ f2,?_,oe,vs,TT,oT,ts,(hs.2 _ (nK _ f2)).trans g1,g2,g3,g4,hb _ g5,g6,(hs.2 _ (nK _ g5)).trans g7,g8,g9⟩,?_,f6,hb _ f7,fun a ha m n=>hn a ha m (f8 a ha m n)⟩
 ·rw [z,vK _ (.head _)] at e;cases e
 ·exact yBb (ff_base f3 fun a ha=>hb a (f3.mem ha).1) fun a ha=>hs.2 a fun z=>hf (by rw [<- z];exact ha)
 ·obtain ⟨o,n,ho,hc,hd⟩:=f5
  exact ⟨o,n,(hs.2 _ (nK _ f7)).trans ho,hc,hd⟩
theorem yQs.at {T:String} {b:Heap} {outer:List Env} {h0 h:Heap} {Wd:Str->Prop} {ex:Addr} (fl:yQs T b outer h0 Wd ex h):b.StaysIn h:=by
 obtain ⟨_,_,_,⟨sb,_⟩,_⟩:=fl
 exact sb
theorem framed_b {B h0 h' base:Heap} {outer:List Env} (hff:B.FunFrames base outer) (st0:B.StaysIn h0) (st:B.StaysIn h'):yQa outer h0 h':=fun a ha m ⟨o,es,ep,ho,r⟩=>by
 obtain ⟨_,o',ho',_⟩:=hff.mem ha
 have:=st0 _ _ ho';rw [ho] at this;cases this
 exact ⟨o,es,ep,st _ _ ho',r⟩
theorem yQs.from {T:String} {b h0 h1 h:Heap} {outer:List Env} {Wd:Str->Prop} {ex:Addr} (fl:yQs T b outer h1 Wd ex h) (fr:yQa outer h0 h1):yQs T b outer h0 Wd ex h:=by
 obtain ⟨t,m,tk,f1,f2,f3,f4,f5⟩:=fl
 exact ⟨t,m,tk,f1,f2,f3,f4,fr.trans f5⟩
theorem hide_of {h:Heap} {S:List Addr} {x:Addr} {o:Obj} (e:(hideAll h S).get? x=some o):x ∉ S:=fun z=>by rw [vK _ z] at e;cases e
def XR (M:Int) (raw:Nat->Rw) (f:Nat->Nat->Bool):Prop:=∃ j,j < 2/\f=fun p q=>decide (sc M j (raw p) < sc M j (raw q))
def RG (raw:Nat->Rw) (n:Nat) (r:Rw):Prop:=∃ i,i < n/\raw i=r
namespace K_so_keyed_wp3
def zP (A:Around) (E:VS) (s:Shared) (a LOG fq:Addr) (rev:Bool) (N n:Nat) (raw:Nat->Rw) (e:Nat->Value) (P:PySem.Fin->Shared->Prop) (outer:List Env) (M:Int) (lo0:Obj):Prop:=∀ (ha:s.heap.get? a=some (listOf ((List.range N).map e).toArray n)) (h128:N < 128) (hal:a≠LOG) (hlog:s.heap.get? LOG=some lo0) (hl0:yQI 0 lo0) (hh:A.handled=none) (hff:(hideAll s.heap [a,LOG]).FunFrames (fb (hideAll s.heap [a,LOG]) outer) outer) (hkey:∀ j (b':Heap) (s':Shared) (lo:Obj) (Q E':VS),j < N->b'.FunFrames (fb b' outer) outer->(hideAll s.heap [a,LOG]).StaysIn b'->b'.StaysIn s'.heap->b'.objs.size<=s'.heap.objs.size->b'.get? LOG=none->s'.heap.get? LOG=some lo->yQI j lo->
   (∀ v h' tk lo',IsV v (raw j)->b'.StaysIn h'->h'.get? LOG=some lo'->yQI (j+1) lo'->Q v { s' with heap:=h',toks:=tk })->
   (∀ ex h' tk b2 lo',raw j=.thorn->(fb b' outer).StaysIn b2->b2.get? LOG=some lo'->yQI (j+1) lo'->yQs "ValueError" b2 outer s'.heap (·=thW j) ex h'->E' (.ref ex) { s' with heap:=h',toks:=tk })->
   wpAny (model prog w) A (call (.ref fq) [e j]) Q E' s') (h:∀ ord h' tk c lo',(∀ i,i < N->raw i≠.thorn)->(∀ f,XR M raw f->yQw f rev N ord)->(hideAll s.heap [a,LOG]).StaysIn h'->h'.get? LOG=some lo'->yQI N lo'->h'.get? a=some (listOf (ord.map e).toArray c)->P (.done (.ret .none)) {s with heap:=h',toks:=tk}) (hT:∀ H h' tk ex m t lo',(∀ i,i < N->raw i≠.thorn)->(hideAll s.heap [a,LOG]).StaysIn H->H.get? LOG=some lo'->yQI N lo'->Heap.MadeExc H h' ex "TypeError" [.str m t]->WdK (RG raw N) m->E (.ref ex) {s with heap:=h',toks:=tk}) (hV:∀ j ex h' tk b2 lo',j < N->(∀ i,i < j->raw i≠.thorn)->raw j=.thorn->(fb (hideAll s.heap [a,LOG]) outer).StaysIn b2->b2.get? LOG=some lo'->yQI (j+1) lo'->yQs "ValueError" b2 outer s.heap (·=thW j) ex h'->E (.ref ex) {s with heap:=h',toks:=tk}),
  wpAny (model prog w) A (ksk_tree a (.ref fq) rev) P E s
def zc:=ep (U15 zP) ⟨({},fun O O=>True,(start default).1,0,0,0,true,0,0,fun O=>.thorn,fun O=>.none,fun O O=>True,[],0,default)⟩
def zd1:=zc.2.2.2.2.2.2.2.2
def A:=zc.1
def E:=zc.2.1
def s:=zc.2.2.1
def a:=zc.2.2.2.1
def LOG:=zc.2.2.2.2.1
def fq:=zc.2.2.2.2.2.1
def rev:=zc.2.2.2.2.2.2.1
def N:=zc.2.2.2.2.2.2.2.1
def raw:=zd1.2.1
def e:=zd1.2.2.1
def P:=zd1.2.2.2.1
def outer:=zd1.2.2.2.2.1
def M:=zd1.2.2.2.2.2.1
def lo0:=zd1.2.2.2.2.2.2
theorem zh:zP A E s a LOG fq rev N zd1.1 raw e P outer M lo0:=by
 intro ha h128 hal hlog hl0 hh hff hkey h hT hV
 have hvl:((List.range N).map e).length=N:=by simp
 obtain ⟨B0,hB0⟩:∃ B0,B0=hideAll s.heap [a,LOG]:=⟨_,rfl⟩
 rw [<- hB0] at hff hkey h hT hV
 have nB0:∀ x o,B0.get? x=some o->x≠a/\x≠LOG:=fun x o z=>by
  rw [hB0] at z
  have:=hide_of z
  simp only [qG,wG,or_false,not_or] at this
  exact this
 have B0s:B0.StaysIn s.heap:=fun x o z=>by rw [hB0] at z;exact vL _ z
 have s1:=wC s.heap a (Obj.mapSeq fun O=>(#[]:Array Value))
 obtain ⟨e1,ho1⟩:∃ e1,(s.heap.update a (Obj.mapSeq fun O=>(#[]:Array Value))).get? a=some (listOf #[] e1):=⟨_,get?_update_seq ha fun O=>#[]⟩
 unfold ksk_tree
 refine qA (listItems_at ha rfl ?_)
 refine qA (listUpdate_at ha rfl ?_ (by rw [size_toArray,sizeLine_eq,hvl];exact wM (vV h128 (by decide))) (vZ _))
 refine qA (seqEpoch_at ho1 rfl ?_)
 refine qA (wpAny_newTuple ?_ (by show ((List.range N).map e).length<=_;rw [sizeLine_eq,hvl];exact wM (vV h128 (by decide))))
 refine qA (wpAny_newList ?_ (vZ _))
 refine wpAny_holding ?_
 have st:B0.StaysIn (((s.heap.update a (Obj.mapSeq fun O=>(#[]:Array Value))).push (seqObj "tuple" ((List.range N).map e).toArray 0)).push (seqObj "list" #[] 0)):=fun x o z=>qS _ (qS _ ((s1.2 x (nB0 x o z).1).trans (B0s _ _ z)))
 have ha3:(((s.heap.update a (Obj.mapSeq fun O=>(#[]:Array Value))).push (seqObj "tuple" ((List.range N).map e).toArray 0)).push (seqObj "list" #[] 0)).get? a=some (listOf #[] e1):=qS _ (qS _ ho1)
 have hlog3:(((s.heap.update a (Obj.mapSeq fun O=>(#[]:Array Value))).push (seqObj "tuple" ((List.range N).map e).toArray 0)).push (seqObj "list" #[] 0)).get? LOG=some lo0:=qS _ (qS _ ((s1.2 LOG (vF hal)).trans hlog))
 have hKS:(((s.heap.update a (Obj.mapSeq fun O=>(#[]:Array Value))).push (seqObj "tuple" ((List.range N).map e).toArray 0)).push (seqObj "list" #[] 0)).get? ((s.heap.update a (Obj.mapSeq fun O=>(#[]:Array Value))).push (seqObj "tuple" ((List.range N).map e).toArray 0)).objs.size=some (listOf #[] 0):=qX _ rfl
 have kltA:∀ x o,s.heap.get? x=some o->x < ((s.heap.update a (Obj.mapSeq fun O=>(#[]:Array Value))).push (seqObj "tuple" ((List.range N).map e).toArray 0)).objs.size:=fun x o z=>by rw [Heap.size_push,Heap.size_update];exact lt_succ_of_lt (qU z)
 have hlt:=kltA _ _ ha
 have hltL:=kltA _ _ hlog
 have hb0:B0.get? ((s.heap.update a (Obj.mapSeq fun O=>(#[]:Array Value))).push (seqObj "tuple" ((List.range N).map e).toArray 0)).objs.size=none:=by
  cases z:B0.get? ((s.heap.update a (Obj.mapSeq fun O=>(#[]:Array Value))).push (seqObj "tuple" ((List.range N).map e).toArray 0)).objs.size with
  | none=>rfl
  | some o=>exact absurd (kltA _ _ (B0s _ _ z)) (lt_irrefl _)
 show wpAny (model prog w) A (ksk_rest a (.ref fq) rev ((List.range N).map e).toArray e1 (.ref ((s.heap.update a (Obj.mapSeq fun O=>(#[]:Array Value))).push (seqObj "tuple" ((List.range N).map e).toArray 0)).objs.size)) P E { s with heap:=((s.heap.update a (Obj.mapSeq fun O=>(#[]:Array Value))).push (seqObj "tuple" ((List.range N).map e).toArray 0)).push (seqObj "list" #[] 0) }
 generalize ((s.heap.update a (Obj.mapSeq fun O=>(#[]:Array Value))).push (seqObj "tuple" ((List.range N).map e).toArray 0)).objs.size=KS at hKS hlt hltL hb0
 generalize ((s.heap.update a (Obj.mapSeq fun O=>(#[]:Array Value))).push (seqObj "tuple" ((List.range N).map e).toArray 0)).push (seqObj "list" #[] 0)=H at st ha3 hKS hlog3
 have frB:∀ x∈framesOf outer,x≠KS/\x≠a/\x≠LOG:=fun x hx=>by
  obtain ⟨_,o,ho,_⟩:=hff.mem hx
  exact ⟨fun q=>(by rw [q,hb0] at ho;cases ho),nB0 _ _ ho⟩
 unfold ksk_rest
 refine qA (vI ?_)
 rw [List.forIn_toArray]
 refine qA (ksk_fold (fun i s'=>X6 fun h' tk kA ek lo c=>A7 (s'={s with heap:=h',toks:=tk}) (B0.StaysIn h') (h'.get? a=some (listOf #[] e1)) (h'.get? KS=some (listOf kA ek)) (h'.get? LOG=some lo/\yQI i lo) (kA.size=i) (∀ q,q < i->IsV (kA.toList.getD q .none) (raw q))) ((List.range N).map e) 0 _
  ⟨H,s.toks,#[],0,lo0,0,rfl,st,ha3,hKS,⟨hlog3,hl0⟩,rfl,fun q hq=>absurd hq (Nat.not_lt_zero _)⟩ ?step ?done)
 case step=>
  rintro j x s' hx ⟨h',tk,kA,ek,lo,_,rfl,st',ha',hK',⟨hlo,hli⟩,hsz,hk⟩
  simp only [zero_add] at hli hsz hk ⊢
  have hj:j < N:=by have:=(List.getElem?_eq_some_iff.mp hx).1;simpa using this
  have hxv:x=e j:=by simp [hj] at hx;exact hx.symm
  refine qA (wpAny_attempt ?_)
  rw [hxv]
  have st1:B0.StaysIn (hideAll h' [LOG]):=fun y o z=>vJ _ (st' _ _ z) fun q=>(nB0 _ _ z).2 (qC.mp q)
  have hffL:=ff_up hff st1
  refine hkey j (hideAll h' [LOG]) {s with heap:=h',toks:=tk} lo _ _ hj hffL st1 (fun _ _ z=>vL _ z) (by rw [hideAll_size];exact vC _) (vK _ (.head _)) hlo hli ?_ ?_
  ·intro v h2 tk2 lo2 hv st2 hlo2 hli2
   dsimp only
   have na:=st2 _ _ (vJ _ ha' fun q=>hal (qC.mp q))
   have nk:=st2 _ _ (vJ _ hK' fun q=>(vB hltL) (qC.mp q).symm)
   have s1':=wC h2 KS (Obj.mapSeq (·.push v))
   obtain ⟨c2,hc2⟩:∃ c2,(h2.update KS (Obj.mapSeq (·.push v))).get? KS=some (listOf (kA.push v) c2):=⟨_,get?_update_seq nk (·.push v)⟩
   refine qA (listUpdate_at nk rfl ?_ (by rw [hsz,sizeLine_eq];exact wM (vV hj (vV h128 (by decide)))) (qZ (qD (Array.size_push ..)) (by rw [hsz,sizeLine_eq];exact wM (vR hj (vV h128 (by decide))))))
   refine qI ⟨rfl,_,_,kA.push v,c2,lo2,0,rfl,fun y o z=>?_,(s1'.2 a (vB hlt)).trans na,hc2,⟨(s1'.2 LOG (vB hltL)).trans hlo2,hli2⟩,by rw [Array.size_push,hsz],fun q hq=>?_⟩
   ·exact (s1'.2 y (fun q=>by rw [q,hb0] at z;cases z)).trans (st2 _ _ (st1 _ _ z))
   ·have ea:(kA.push v).toList=kA.toList++[v]:=by simp
    rw [ea,qR]
    rcases Nat.lt_or_eq_of_le (Nat.le_of_lt_succ hq) with hq | rfl
    ·rw [List.getElem?_append_left (by rw [Array.length_toList,hsz];exact hq),<- qR];exact hk q hq
    ·rw [List.getElem?_append_right (by rw [Array.length_toList,hsz];exact vC _),Array.length_toList,hsz,Nat.sub_self];exact hv
  ·intro ex h2 tk2 b2 lo2 hth st2 hlo2 hli2 fl
   dsimp only
   have hin:∀ y o,h'.get? y=some o->y≠LOG->y ∉ framesOf outer->b2.get? y=some o:=fun y o z q1 q2=>st2 _ _ (vJ _ (vJ _ z fun q=>q1 (qC.mp q)) q2)
   have kf:KS ∉ framesOf outer:=fun q=>(frB _ q).1 rfl
   have af:a ∉ framesOf outer:=fun q=>(frB _ q).2.1 rfl
   have bK:=hin _ _ hK' (fun q=>vB hltL q.symm) kf
   have bA:=hin _ _ ha' hal af
   have f1:=fl
   obtain ⟨_,_,_,⟨sb,_⟩,_⟩:=f1
   have s1':=wC h2 KS (Obj.mapSeq fun O=>(#[]:Array Value))
   have a1:(h2.update KS (Obj.mapSeq fun O=>(#[]:Array Value))).get? a=some (listOf #[] e1):=(s1'.2 a (vB hlt)).trans (sb _ _ bA)
   have s2':=wC (h2.update KS (Obj.mapSeq fun O=>(#[]:Array Value))) a (Obj.mapSeq fun O=>((List.range N).map e).toArray)
   refine qA (vI (qA (listItems_at (sb _ _ bK) rfl (qA (listUpdate_at (sb _ _ bK) rfl ?_ (by rw [hsz,sizeLine_eq];exact wM (vV hj (vV h128 (by decide)))) (vZ _))))))
   refine qA (wpAny_letGo ?_)
   refine qA (listUpdate_at a1 rfl (wpAny_throw ?_) (vZ _) (by show ((List.range N).map e).toArray.size<=_;rw [size_toArray,hvl,sizeLine_eq];exact wM (vV h128 (by decide))))
   refine hV j ex _ tk2 (hideAll (hideAll b2 [KS]) [a]) lo2 hj (fun i hi=>?_) hth (fun y o z=>?_) (vJ _ (vJ _ hlo2 fun q=>vB hltL (qC.mp q)) fun q=>hal (qC.mp q).symm) hli2 (((fl.upd bK kf s1').upd (vJ _ bA fun q=>vB hlt (qC.mp q)) af s2').from (framed_b hff B0s st'))
   ·intro z
    have:=hk i hi
    rw [z] at this;exact this
   ·have z0:B0.get? y=some o:=vL _ z
    exact vJ _ (vJ _ (st2 _ _ (fb_mono st1 _ _ z)) fun q=>by rw [qC.mp q,hb0] at z0;cases z0) fun q=>(nB0 _ _ z0).1 (qC.mp q)
 case done=>
  rintro s' ⟨h',tk,kA,ek,lo,_,rfl,st',ha',hK',⟨hlo,hli⟩,hsz,hk⟩
  rw [zero_add,hvl] at hli hsz hk
  have hnt:∀ i,i < N->raw i≠.thorn:=fun i hi z=>by have:=hk i hi;rw [z] at this;exact this
  have hkl:kA.toList.length=((List.range N).map e).length:=by rw [hvl,Array.length_toList,hsz]
  refine qA (listItems_at hK' rfl ?_)
  rw [yBn]
  have hkA:kA=kA.toList.toArray:=by simp
  rw [hkA]
  have hin:∀ v∈kA.toList,∃ r,IsV v r:=fun v hv=>by
   obtain ⟨i,hi,rfl⟩:=getElem_of_mem hv
   have:=hk i (by rw [<- hsz,<- Array.length_toList];exact hi)
   rw [qR,qT hi] at this
   exact ⟨_,this⟩
  have hmem:∀ i,i < N->kA.toList.getD i .none∈kA.toList:=fun i hi=>by
   have hi':i < kA.toList.length:=by rw [hkl,hvl];exact hi
   rw [qR,qT hi'];exact wK _
  refine yVp (s:={s with heap:=h',toks:=tk}) (κ:=if sameB kA.toList=true then oneType' else general') (X:=XR M raw) (Bad:=fun ev h''=>X3 fun ex m t=>A3 (ev=.ref ex) (Heap.MadeExc h' h'' ex "TypeError" [.str m t]) (WdK (RG raw N) m)) (fun h''=>Heap.SameBut KS h' h'') hkl (by rw [hvl];exact h128) ?_ ⟨_,0,by decide,rfl⟩ (fun h2 Q q=>?_) (fun i j Q tk0 hi hj hq=>?_) (fun st tk Q hf hq=>?_) (fun st e h'' tk hf hb=>?_) ?_
  ·rintro f ⟨j,_,rfl⟩
   exact ⟨fun p q z=>by simp only [decide_eq_true_eq,decide_eq_false_iff_not] at z ⊢;exact fun z2=>Int.lt_irrefl _ (Int.lt_trans z z2),fun p q r z1 z2=>by simp only [decide_eq_false_iff_not,Int.not_lt] at z1 z2 ⊢;exact Int.le_trans z2 z1⟩
  ·exact yZa (by rw [hkl];exact h2) hin q
  ·rw [hvl] at hi hj
   have ku:=hk i hi
   have kv:=hk j hj
   cases z:sameB kA.toList with
   | true=>
    rw [qN rfl,keyLt'_oneType]
    have hkd:=yCw ku kv (sameB_is z _ (hmem i hi) _ (hmem j hj))
    exact yXm ku kv hkd (hq _ tk0 (by rintro f ⟨j',_,rfl⟩;exact decide_eq_decide.mpr (sc_lt (kd_t hkd))))
   | false=>
    rw [qM (by decide)]
    show wpAny _ _ (oneLt' false _ _) _ _ _
    refine yYG ku kv (fun ht=>hq _ tk0 (by rintro f ⟨j',_,rfl⟩;exact decide_eq_decide.mpr (sc_lt ht))) fun ht=>⟨hh,fun h3 tk3 ex t hx=>⟨h3,tk3,rfl,ex,_,t,rfl,hx,⟨_,_,⟨i,hi,rfl⟩,⟨j,hj,rfl⟩,ht,rfl⟩⟩⟩
  ·unfold so_let
   have s1':=wC h' KS (Obj.mapSeq fun O=>(#[]:Array Value))
   refine qA (listUpdate_at hK' rfl ?_ (by rw [hsz,sizeLine_eq];exact wM (vV h128 (by decide))) (vZ _))
   exact wpAny_letGo (hq _ ((s1'.2 a (vB hlt)).trans ha') s1')
  ·obtain ⟨ex,m,t,rfl,hx,hw⟩:=hb
   unfold so_let
   have s1':=wC h'' KS (Obj.mapSeq fun O=>(#[]:Array Value))
   refine qA (listUpdate_at (hx.keeps _ _ hK') rfl ?_ (by rw [hsz,sizeLine_eq];exact wM (vV h128 (by decide))) (vZ _))
   refine wpAny_letGo ⟨_,_,rfl,(s1'.2 a (vB hlt)).trans (hx.keeps _ _ ha'),fun h3 hs3=>?_⟩
   have x1:=made_hide hx hK' s1'
   have x2:=made_hide x1 (vJ _ ha' fun q=>vB hlt (qC.mp q)) hs3
   refine hT _ h3 _ ex m t lo hnt (fun y o z=>vJ _ (vJ _ (st' _ _ z) fun q=>by rw [qC.mp q,hb0] at z;cases z) fun q=>(nB0 _ _ z).1 (qC.mp q)) (vJ _ (vJ _ hlo fun q=>vB hltL (qC.mp q)) fun q=>hal (qC.mp q).symm) hli x2 hw
  ·rintro ord ha2 h3 tk3 c ho hK2 hsb hc
   rw [hvl] at ho
   refine h ord h3 tk3 c lo hnt ho (fun y o z=>hsb.extBut y o (nB0 _ _ z).1 (hK2.extBut y o (fun q=>by rw [q,hb0] at z;cases z) (st' _ _ z))) (hsb.extBut _ _ (vF hal) (hK2.extBut _ _ (vB hltL) hlo)) hli ?_
   rw [hc]
   have:(ord.map fun i=>((List.range N).map e).getD i .none)=ord.map e:=map_congr_left fun i hi=>by
    have hi':i < N:=by simpa using (ho _ ⟨0,by decide,rfl⟩).1.mem_iff.mp hi
    simp [hi']
   rw [this]
end K_so_keyed_wp3
theorem yVQ {A E s a LOG fq rev N n raw e P outer M lo0}:K_so_keyed_wp3.zP A E s a LOG fq rev N n raw e P outer M lo0:=eps (P:=U15 K_so_keyed_wp3.zP) K_so_keyed_wp3.zh (A,E,s,a,LOG,fq,rev,N,n,raw,e,P,outer,M,lo0)
section
variable {A:Around} {E:VS} {s:Shared}
theorem check_sorted1 (x k:Value):checkBuiltinCall "sorted" ⟨[x],[(Str.ofString "key",k)]⟩=pure ():=by kernel_rfl
theorem check_sorted2 (x k r:Value):checkBuiltinCall "sorted" ⟨[x],[(Str.ofString "key",k),(Str.ofString "reverse",r)]⟩=pure ():=by kernel_rfl
theorem yJb {l:Addr} {vs:List Value} {c:Nat} {kw:List (Str×Value)} {Q:VS} (hck:∀ x,checkBuiltinCall "sorted" ⟨[x],kw⟩=pure ()) (hok:∀ a:Value,argsOk "list.sort" ⟨[a],kw⟩)
  (hl:s.heap.get? l=some (listOf vs.toArray c)) (h128:vs.length < 128)
  (h:∀ R h',s.heap.StaysIn h'->s.heap.get? R=none->h'.get? R=some (listOf vs.toArray 0)->
   wpAny (model prog w) A.in1.in1 (Builtin.«list.sort» ⟨[.ref R],kw⟩) (fun fin s'=>∃ v,fin=.done (.ret v)/\Q (.ref R) s') E {s with heap:=h'}):
  wpAny (model prog w) A (call (.builtin "sorted") [.ref l] kw) Q E s:=by
 refine wpAny_call (codeAny_call_builtin plain_sorted entry_sorted ?_)
 rw [hck]
 refine qI ?_
 unfold Builtin.«sorted»
 refine qA (m:=checkCount "sorted" 1 1 _) (qI ?_)
 refine qA (collect_list (qW hl) ?_ (by rw [sizeLine_eq];exact (jg2 [_] 0xf0000080dab0f0ab1000000d h128)))
 refine qA (wpAny_newList ?_ (by rw [sizeLine_eq];exact (jg2 [_] 0xf0000080dab0f0ab1000000d h128)))
 have hsz:((s.heap.push (seqObj "list" #[] 0)).update s.heap.objs.size (Obj.mapSeq (·++vs.toArray))).objs.size=s.heap.objs.size+1:=by
  rw [Heap.size_update,size_push']
 have hoL:(((s.heap.push (seqObj "list" #[] 0)).update s.heap.objs.size (Obj.mapSeq (·++vs.toArray))).push (seqObj "list" vs.toArray 0)).get? (s.heap.objs.size+1)=some (listOf vs.toArray 0):=by
  rw [<- hsz];exact qX _ rfl
 have keep:s.heap.StaysIn (((s.heap.push (seqObj "list" #[] 0)).update s.heap.objs.size (Obj.mapSeq (·++vs.toArray))).push (seqObj "list" vs.toArray 0)):=fun b o q=>by
  have hlt:b < s.heap.objs.size:=qU q
  rw [Heap.get?_push_ne _ _ _ (by rw [hsz];exact vB (lt_succ_of_lt hlt)),Heap.get?_update_ne _ _ _ _ (vB hlt),Heap.get?_push_ne _ _ _ (vB hlt)]
  exact q
 show wpAny _ _ _ _ _ { s with heap:=((s.heap.push (seqObj "list" #[] 0)).update s.heap.objs.size (Obj.mapSeq (·++vs.toArray))).push (seqObj "list" vs.toArray 0) }
 rw [hsz]
 refine qA (wpAny_holding (wpAny_call_entry_kw slot_list_sort ⟨_,hoL,rfl⟩ entry_list_sort ?body (hok _)))
 refine qL (h (s.heap.objs.size+1) _ keep (qV (le_succ _)) hoL) (fun fin s' hf=>?_) fun _ _ e=>e
 obtain ⟨v,rfl,hq⟩:=hf
 exact ⟨v,rfl,qI hq⟩
end
section
variable {A:Around} {E:VS} {s:Shared} {l LOG fq:Addr} {rev:Bool} {N c0:Nat} {raw:Nat->Rw} {e:Nat->Value} {Q:VS} {outer:List Env} {M:Int} {lo0:Obj} {kw:List (Str×Value)}
theorem yJL (hck:∀ x,checkBuiltinCall "sorted" ⟨[x],kw⟩=pure ()) (hok:∀ a:Value,argsOk "list.sort" ⟨[a],kw⟩) (htr:∀ R:Addr,Builtin.«list.sort» ⟨[.ref R],kw⟩=ksk_tree R (.ref fq) rev)
  (hl:s.heap.get? l=some (listOf ((List.range N).map e).toArray c0)) (h128:N < 128) (hlog:s.heap.get? LOG=some lo0) (hl0:yQI 0 lo0) (hh:A.handled=none)
  (hff:(hideAll s.heap [LOG]).FunFrames (fb (hideAll s.heap [LOG]) outer) outer)
  (hkey:∀ j (b':Heap) (s':Shared) (lo:Obj) (Q E':VS),j < N->b'.FunFrames (fb b' outer) outer->(hideAll s.heap [LOG]).StaysIn b'->b'.StaysIn s'.heap->b'.objs.size<=s'.heap.objs.size->b'.get? LOG=none->s'.heap.get? LOG=some lo->yQI j lo->
   (∀ v h' tk lo',IsV v (raw j)->b'.StaysIn h'->h'.get? LOG=some lo'->yQI (j+1) lo'->Q v { s' with heap:=h',toks:=tk })->
   (∀ ex h' tk b2 lo',raw j=.thorn->(fb b' outer).StaysIn b2->b2.get? LOG=some lo'->yQI (j+1) lo'->yQs "ValueError" b2 outer s'.heap (·=thW j) ex h'->E' (.ref ex) { s' with heap:=h',toks:=tk })->
   wpAny (model prog w) A.in1.in1 (call (.ref fq) [e j]) Q E' s')
  (h:∀ R ord h' tk c lo',(∀ i,i < N->raw i≠.thorn)->(∀ f,XR M raw f->yQw f rev N ord)->(hideAll s.heap [LOG]).StaysIn h'->h'.get? LOG=some lo'->yQI N lo'->s.heap.get? R=none->h'.get? R=some (listOf (ord.map e).toArray c)->Q (.ref R) {s with heap:=h',toks:=tk})
  (hT:∀ H h' tk ex m t lo',(∀ i,i < N->raw i≠.thorn)->(hideAll s.heap [LOG]).StaysIn H->H.get? LOG=some lo'->yQI N lo'->Heap.MadeExc H h' ex "TypeError" [.str m t]->WdK (RG raw N) m->E (.ref ex) {s with heap:=h',toks:=tk})
  (hV:∀ j ex h' tk b2 lo',j < N->(∀ i,i < j->raw i≠.thorn)->raw j=.thorn->(fb (hideAll s.heap [LOG]) outer).StaysIn b2->b2.get? LOG=some lo'->yQI (j+1) lo'->yQs "ValueError" b2 outer s.heap (·=thW j) ex h'->E (.ref ex) {s with heap:=h',toks:=tk}):
  wpAny (model prog w) A (call (.builtin "sorted") [.ref l] kw) Q E s:=by
 refine yJb hck hok hl (by simpa using h128) fun R h' st hR hR'=>?_
 rw [htr]
 have st2:(hideAll s.heap [LOG]).StaysIn (hideAll h' [R,LOG]):=fun y o q=>vJ _ (st y o (vL _ q)) fun z=>by
  rcases qG.mp z with rfl | z
  ·rw [vL _ q] at hR;cases hR
  ·exact hide_of q z
 have ho1:(hideAll s.heap [LOG]).StaysIn s.heap:=fun _ _ z=>vL _ z
 refine yVQ (s:={s with heap:=h'}) (LOG:=LOG) (outer:=outer) (M:=M) hR' h128 (fun q=>by rw [q,hlog] at hR;cases hR) (st _ _ hlog) hl0 hh (ff_up hff st2) (fun j b' s' lo Q E' hj f1 f2=>hkey j b' s' lo Q E' hj f1 fun _ _ z=>f2 _ _ (st2 _ _ z)) ?_ ?_ ?_
 ·intro ord h3 tk c lo' n1 n2 n3 n4 n5 n6
  exact ⟨_,rfl,h R ord h3 tk c lo' n1 n2 (fun _ _ z=>n3 _ _ (st2 _ _ z)) n4 n5 hR n6⟩
 ·intro H h3 tk ex m t lo' n1 n2
  exact hT H h3 tk ex m t lo' n1 fun _ _ z=>n2 _ _ (st2 _ _ z)
 ·intro j ex h3 tk b2 lo' hj n1 n2 n3 n4 n5 n6
  exact hV j ex h3 tk b2 lo' hj n1 n2 (fun _ _ z=>n3 _ _ (fb_mono st2 _ _ z)) n4 n5 (n6.from (framed_b hff ho1 fun _ _ z=>st _ _ (ho1 _ _ z)))
end
set_option tactic.hygienic true
noncomputable def fl (g:Bool) (f:It->It->Bool) (a b:It):Bool:=cond g (f a b) (f b a)
theorem yAC (g:Bool):((∀ m n:Nat,cond g m n=m)/\∀ f a b,fl g f a b=f a b)\/(∀ m n:Nat,cond g m n=n)/\∀ f a b,fl g f a b=f b a:=by
 cases g
 ·exact .inr ⟨fun O O=>rfl,fun O O O=>rfl⟩
 ·exact .inl ⟨fun O O=>rfl,fun O O O=>rfl⟩
theorem yZE {M:Model} {A:Around} {x y:Addr} {as:List Value} {ks:List (Str×Value)} {Q E:VS} {s:Shared} (e:x=y) (h:wpAny M A (call (.ref x) as ks) Q E s):wpAny M A (call (.ref y) as ks) Q E s:=e ▸ h
theorem half_lt {c:Nat} (h:0 < c):(c - 1) / 2 < c:=vR (Nat.div_le_self _ _) (Nat.sub_one_lt (ne_of_gt h))
noncomputable def sdown (lt:It->It->Bool) (xs:List It) (sp pos:Nat) (x:It):List It:=
 (measure fun q:List It×Nat=>q.2).wf.fix (C:=fun O=>List It) (fun q r=>if h:sp < q.2 then
  if lt x (q.1.getD ((q.2 - 1) / 2) it0) then r (q.1.set q.2 (q.1.getD ((q.2 - 1) / 2) it0),(q.2 - 1) / 2) (half_lt (Nat.zero_lt_of_lt h))
  else q.1.set q.2 x
 else q.1.set q.2 x) (xs,pos)
section
variable {lt:It->It->Bool} {sp:Nat} {x:It}
theorem yJO {xs:List It} {pos:Nat}:sdown lt xs sp pos x=if h:sp < pos then
  if lt x (xs.getD ((pos - 1) / 2) it0) then sdown lt (xs.set pos (xs.getD ((pos - 1) / 2) it0)) sp ((pos - 1) / 2) x
  else xs.set pos x
 else xs.set pos x:=WellFounded.fix_eq _ _ _
theorem yJk {M:List It->Nat->List It->Prop}
  (h1:∀ xs pos,sp < pos->lt x (xs.getD ((pos - 1) / 2) it0)=true->M (xs.set pos (xs.getD ((pos - 1) / 2) it0)) ((pos - 1) / 2) (sdown lt (xs.set pos (xs.getD ((pos - 1) / 2) it0)) sp ((pos - 1) / 2) x)->M xs pos (sdown lt (xs.set pos (xs.getD ((pos - 1) / 2) it0)) sp ((pos - 1) / 2) x))
  (h2:∀ xs pos,(sp < pos->lt x (xs.getD ((pos - 1) / 2) it0)=false)->M xs pos (xs.set pos x)) (xs:List It) (pos:Nat):M xs pos (sdown lt xs sp pos x):=by
 induction pos using Nat.strongRecOn generalizing xs with
 | ind pos ih=>
  rw [yJO]
  by_cases h:sp < pos
  ·rw [dif_pos h]
   by_cases k:lt x (xs.getD ((pos - 1) / 2) it0)=true
   ·rw [qN k];exact h1 _ _ h k (ih _ (half_lt (Nat.zero_lt_of_lt h)) _)
   ·rw [qM k];exact h2 _ _ fun O=>Bool.eq_false_iff.mpr k
  ·rw [dif_neg h];exact h2 _ _ fun z=>absurd z h
end
noncomputable def kid (lt:It->It->Bool) (xs:List It) (pos:Nat):Nat:=
 if 2 * pos+2 < xs.length/\lt (xs.getD (2 * pos+1) it0) (xs.getD (2 * pos+2) it0)=false then 2 * pos+2 else 2 * pos+1
theorem kid_gt {lt:It->It->Bool} {xs:List It} {pos:Nat}:pos < kid lt xs pos:=by
 have h:pos < 2 * pos+1:=Nat.lt_succ_of_le (Nat.le_mul_of_pos_left pos (by decide))
 unfold kid;split
 ·exact lt_succ_of_lt h
 ·exact h
theorem kid_lt {lt:It->It->Bool} {xs:List It} {pos:Nat} (h:2 * pos+1 < xs.length):kid lt xs pos < xs.length:=by
 unfold kid;split
 ·rename_i q;exact q.1
 ·exact h
theorem sup_dec {lt:It->It->Bool} {xs:List It} {pos:Nat} {y:It} (h:2 * pos+1 < xs.length):(xs.set pos y).length - kid lt xs pos < xs.length - pos:=by
 rw [vH];exact Nat.sub_lt_sub_left (vV (kid_gt (lt:=lt)) (kid_lt h)) kid_gt
noncomputable def sup (lt:It->It->Bool) (xs:List It) (sp pos:Nat) (x:It):List It:=
 (measure fun q:List It×Nat=>q.1.length - q.2).wf.fix (C:=fun O=>List It) (fun q r=>if h:2 * q.2+1 < q.1.length then r (q.1.set q.2 (q.1.getD (kid lt q.1 q.2) it0),kid lt q.1 q.2) (sup_dec h)
 else sdown lt (q.1.set q.2 x) sp q.2 x) (xs,pos)
section
variable {lt:It->It->Bool} {sp:Nat} {x:It}
theorem yYr {xs:List It} {pos:Nat}:sup lt xs sp pos x=if h:2 * pos+1 < xs.length then sup lt (xs.set pos (xs.getD (kid lt xs pos) it0)) sp (kid lt xs pos) x
 else sdown lt (xs.set pos x) sp pos x:=WellFounded.fix_eq _ _ _
theorem yVA {M:List It->Nat->List It->Prop}
  (h1:∀ xs pos,2 * pos+1 < xs.length->M (xs.set pos (xs.getD (kid lt xs pos) it0)) (kid lt xs pos) (sup lt (xs.set pos (xs.getD (kid lt xs pos) it0)) sp (kid lt xs pos) x)->M xs pos (sup lt (xs.set pos (xs.getD (kid lt xs pos) it0)) sp (kid lt xs pos) x))
  (h2:∀ xs pos,¬ 2 * pos+1 < xs.length->M xs pos (sdown lt (xs.set pos x) sp pos x)) (xs:List It) (pos:Nat):M xs pos (sup lt xs sp pos x):=by
 generalize e:xs.length - pos=n
 induction n using Nat.strongRecOn generalizing xs pos with
 | ind n ih=>
  rw [yYr]
  by_cases h:2 * pos+1 < xs.length
  ·rw [dif_pos h];exact h1 _ _ h (ih _ (e ▸ sup_dec h) _ _ rfl)
  ·rw [dif_neg h];exact h2 _ _ h
end
section
variable {A:Around} {s:Shared} {b:Heap} {K:Frag}
theorem enterL {R:Result->Shared->Prop} {name qual:Str} {params:Arguments} {body:List Stmt} {scope:Scope} {dV kV doc pm cdv ct oc:Value} {an od:Option Addr} {osl:Array (Option Value)} {f:Addr} {args:Args} {binds:List (Str×Value)}
  (st:b.StaysIn s.heap) (hsz:b.objs.size<=s.heap.objs.size) (X:K.In b) (T:Top p loose yQv mg mb b)
  (ho:K.lookup f=some ⟨oc,od,.func (fnOf name qual params body scope dV kV doc pm an cdv ct),osl⟩) (hcd:codeIn K cdv qual=true) (hroom:A.depth < recursionLimit)
  (hbind:BindsTo s (fnOf name qual params body scope dV kV doc pm an cdv ct) args binds) (hloc:∀ y∈binds,scope.names.lookup y.1=some .local)
  (h:∀ ha1,Fr b s.heap.objs.size ha1 (fun y=>binds.reverse.lookup y)->s.heap.StaysIn ha1->
   wpAny (model prog w) (A.deeper (envOf qual scope s.heap.objs.size f cdv)) (execs body (envOf qual scope s.heap.objs.size f cdv))
    (fun fl s'=>R (.ok (.ret (match fl with | .ret v=>v | _=>.none))) s')
    (fun e s'=>wpAny (model prog w) (A.deeper (envOf qual scope s.heap.objs.size f cdv)) (leaving (envOf qual scope s.heap.objs.size f cdv) e) (fun _ s''=>R (.error e) s'') (fun e' s''=>R (.error e') s'') s')
    {s with heap:=ha1,toks:=s.toks+binds.length})
  (hco:scope.isCoroutine=false) (hgen:scope.isGenerator=false) (hk:scope.kind=.function)
  (hcell:∀ x∈scope.names,x.2≠.cell):codeAny (model prog w) A (.call (.ref f) args) R s:=by
 refine codeAny_call_function hroom (st _ _ (X _ _ ho)) rfl hco hgen rfl (codeRec_of (X.keeps st) hcd) (hbind _ _ _ _ ?_)
 refine wpAny_newFunctionEnv hcell hloc (fun ha1 hns hsb=>⟨(T.nolimit.keeps st).fresh _ hsb,codeAny_func (h ha1 ⟨hns,fun x o e=>?_,hsz⟩ (fun x o e=>?_))⟩) hk
 ·exact hsb.extBut x o (vB (qU (st _ _ e))) (qS _ (st _ _ e))
 ·exact hsb.extBut x o (vB (qU e)) (qS _ e)
end
section
inductive Sp:{α:Type}->Nat->Sem α->Prop
| s0:Sp 0 (execs (.If (.BoolOp .And z1 z2) z3 z4 z5::z6) z7)
| s1:Sp 1 (compareOp .Eq (.ref z1) (.ref z2))
| s2:Sp 2 (compareOp .NotEq (.ref z1) (.ref z2))
| s3:Sp 3 (eval (.Name (Str.ofString "raws") z1) (compEnvC z2 z3 z4 z5))
| s4:Sp 4 (execs (.Assign z1 (.Call z2 z3 z4 z5) z6::z7) z8)
| s5:Sp 5 (execs (.Assign z1 (.IfExp z2 z3 z4 z5) z6::z7) z8)
| s6:Sp 6 (execs (.Assign z1 (.ListComp z2 z3 z4 z5) z6::z7) z8)
| s7:Sp 7 (execs (.If z1 z2 z3 z4::z5) z6)
| s8:Sp 8 (subscriptTail z1 z2 (It.v z3) z4)
| s9:Sp 9 (PySem.isTrue (.BoolOp z1 z2 z3) z4 z5)
| s10:Sp 10 (binaryOp .Add (.ref z1) (.ref z2))
| s11:Sp 11 (call (.builtin "isinstance") z1 z2)
| s12:Sp 12 (call (.builtin "max") z1 z2)
| s13:Sp 13 (call (.builtin "min") z1 z2)
| s14:Sp 14 (call (.builtin "iter") z1 z2)
| s15:Sp 15 (call (.type "list") z1 z2)
| s16:Sp 16 (call (.type "map") z1 z2)
| s17:Sp 17 (call (.builtin "len") z1 z2)
| s18:Sp 18 (call (.builtin "sorted") z1 z2)
| s19:Sp 19 (call (.ref z1) z2 z3)
| s20:Sp 20 (call (.type "str") z1 z2)
| s21:Sp 21 (compareOp .Eq z1 z2)
| s22:Sp 22 (compareOp .Is z1 z2)
| s23:Sp 23 (compareOp .IsNot z1 z2)
| s24:Sp 24 (compareOp .Lt z1 z2)
| s25:Sp 25 (compareOp .NotEq z1 z2)
| s26:Sp 26 (compareOp .NotIn z1 z2)
| s27:Sp 27 (eval (.IfExp z1 z2 z3 z4) z5)
| s28:Sp 28 (eval (.Lambda z1 z2 z3 z4) z5)
| s29:Sp 29 (eval (.ListComp z1 z2 z3 z4) z5)
| s30:Sp 30 (exec (.For z1 z2 z3 z4 z5) z6)
| s31:Sp 31 (eval (.Name (Str.ofString "due") z1) z2)
| s32:Sp 32 (eval (.Name (Str.ofString "things") z1) z2)
| s33:Sp 33 (eval (.Name (Str.ofString "what") z1) z2)
| s34:Sp 34 (storeName z1 (Str.ofString "due") z2)
| s35:Sp 35 (storeName z1 (Str.ofString "log") z2)
| s36:Sp 36 (storeName z1 (Str.ofString "raws") z2)
| s37:Sp 37 (storeName z1 (Str.ofString "things") z2)
| s38:Sp 38 (storeName z1 (Str.ofString "what") z2)
| s39:Sp 39 (eval (.Name (Str.ofString "log") z1) z2)
| s40:Sp 40 (eval (.Name (Str.ofString "raws") z1) z2)
| s41:Sp 41 (exec (.Assign z1 (.ListComp z2 z3 z4 z5) z6) z7)
| s42:Sp 42 (exec (.If z1 z2 z3 z4) z5)
| s43:Sp 43 (exec (.While z1 z2 z3 z4) z5)
| s44:Sp 44 (execs z1 z2)
| s45:Sp 45 (pyIter z1)
| s46:Sp 46 (subscriptTail z1 z2 z3 z4)
| s47:Sp 47 (truthy (.ref z1))
| s48:Sp 48 (assign (.Tuple z1 z2 z3) z4 z5)
| s49:Sp 49 (eval (.Name (Str.ofString "AttributeError") z1) z2)
| s50:Sp 50 (call (.builtin "list.sort") z1 z2)
| s51:Sp 51 (loadName z1 z2)
theorem stp {α:Type} {M:Model} {A:Around} {m:Sem α} {Q:α->Shared->Prop} {E:VS} {s:Shared} {k:Nat} (n:Nat) (_:Sp k m) (_:n.testBit k=true) (x:wpAny M A m Q E s):wpAny M A m Q E s:=x
local macro_rules | `(tactic| walk_at "s")=>`(tactic| first | walk1 | (dsimp only;walk1))
local macro_rules | `(tactic| walk_at "r0")=>`(tactic| repeat' first | (k_unfold;try dsimp only) | ((fail_if_success (with_reducible refine stp 0xa0060000000 (by constructor) ?_ ?_);decide);walk_at "s"))
local macro_rules | `(tactic| walk_at "r1")=>`(tactic| repeat' first | (k_unfold;try dsimp only) | ((fail_if_success (with_reducible refine stp 0xfaa00600dfd00 (by constructor) ?_ ?_);decide);first | ((with_reducible first | show wpAny _ _ (exec (.Assign ..) _) .. | show wpAny _ _ (exec (.Expr ..) _) .. | show wpAny _ _ (exec (.Return ..) _) ..);k_fold) | walk_at "s"))
local macro_rules | `(tactic| walk_at "rB")=>`(tactic| repeat' first | (k_unfold;try dsimp only) | ((fail_if_success (with_reducible refine stp 0x627ff09fc10e (by constructor) ?_ ?_);decide);walk_at "s"))
local macro_rules | `(tactic| walk_at "rC")=>`(tactic| repeat' first | (k_unfold;try dsimp only) | ((fail_if_success (with_reducible refine stp 0x627ff89fc10e (by constructor) ?_ ?_);decide);walk_at "s"))
local macro_rules | `(tactic| walk_at "rD")=>`(tactic| repeat' first | (k_unfold;try dsimp only) | ((fail_if_success (with_reducible refine stp 0x627ff1bfc10e (by constructor) ?_ ?_);decide);walk_at "s"))
local macro_rules | `(tactic| walk_at "rE")=>`(tactic| repeat' first | (k_unfold;try dsimp only) | ((fail_if_success (with_reducible refine stp 0x627ff9bfc30e (by constructor) ?_ ?_);decide);walk_at "s"))
local macro_rules | `(tactic| walk_at "rF")=>`(tactic| repeat' first | (k_unfold;try dsimp only) | ((fail_if_success (with_reducible refine stp 0x627ff89fc14e (by constructor) ?_ ?_);decide);walk_at "s"))
local macro_rules | `(tactic| walk_at "rG")=>`(tactic| repeat' first | (k_unfold;try dsimp only) | ((fail_if_success (with_reducible refine stp 0x627ff09fc15e (by constructor) ?_ ?_);decide);walk_at "s"))
local macro_rules | `(tactic| walk_at "rH")=>`(tactic| repeat' first | (k_unfold;try dsimp only) | ((fail_if_success (with_reducible refine stp 0x627ff09fc18f (by constructor) ?_ ?_);decide);walk_at "s"))
local macro_rules | `(tactic| walk_at "rI")=>`(tactic| repeat' first | (k_unfold;try dsimp only) | ((fail_if_success (with_reducible refine stp 0x63fff6dffd0f (by constructor) ?_ ?_);decide);walk_at "s"))
local macro_rules | `(tactic| walk_at "rJ")=>`(tactic| repeat' first | (k_unfold;try dsimp only) | ((fail_if_success (with_reducible refine stp 0x63fffedffd0f (by constructor) ?_ ?_);decide);walk_at "s"))
local macro_rules | `(tactic| walk_at "rM")=>`(tactic| repeat' first | (k_unfold;try dsimp only) | ((fail_if_success (with_reducible refine stp 0x63fff6dffdbf (by constructor) ?_ ?_);decide);walk_at "s"))
local macro_rules | `(tactic| walk_at "rN")=>`(tactic| repeat' first | (k_unfold;try dsimp only) | ((fail_if_success (with_reducible refine stp 0x63fff6dffd1f (by constructor) ?_ ?_);decide);walk_at "s"))
local macro_rules | `(tactic| walk_at "rO")=>`(tactic| repeat' first | (k_unfold;try dsimp only) | ((fail_if_success (with_reducible refine stp 0x63fffedffdaf (by constructor) ?_ ?_);decide);walk_at "s"))
local macro_rules | `(tactic| walk_at "eval Name")=>`(tactic| k_here;(with_reducible show wpAny _ _ (eval (.Name ..) (envOf ..)) ..);k_dflt (refine ld (by k_asm) (by first | with_reducible assumption | exact rfl | assumption) ?_;k_whole))
local macro_rules | `(tactic| walk_at "eval Name")=>`(tactic| k_here;(with_reducible show wpAny _ _ (eval (.Name ..) (envOfC ..)) ..);k_dflt (refine nameX_L (by k_asm) (by first | with_reducible assumption | exact rfl | assumption) ?_ (by rfl) (by rfl);k_whole))
local macro_rules | `(tactic| walk_at "binaryOp RShift int int")=>`(tactic| with_reducible refine yBp (by lia) ?_)
local macro_rules | `(tactic| walk_at "en")=>`(tactic| k_dflt (refine enterL (by assumption) (by assumption) (by assumption) (by assumption) (by k_is) (by k_is) (Nat.lt_of_le_of_lt (by assumption) (by decide)) (by exact BindsTo.of_eq rfl) (by exact locs rfl) ?_ (by rfl) (by rfl) (by rfl) (by decide)))
section
local macro_rules | `(tactic| walk_at "xz")=>`(tactic| first | exact Int.natCast_nonneg _ | exact Int.ofNat_lt.mpr (by assumption) | assumption | lia)
local macro_rules | `(tactic| walk_at "setItem")=>`(tactic| k_here;(with_reducible show wpAny _ _ (setItem (.ref _) (.int ..) (It.v _)) ..);(with_unfolding_all refine set_at (by k_asm) (by k_asm) (by k_mem) (by walk_at "xz") (by walk_at "xz") (by walk_at "xz") ?_;k_whole);intro _ _ _;try k_sweep)
local macro_rules | `(tactic| walk_at "subscriptTail Name Constant ref int")=>`(tactic| k_here;(with_reducible show wpAny _ _ (subscriptTail _ _ (.ref _) (.int ..)) ..);with_unfolding_all refine sub_at (by k_asm) (by k_mem) (by walk_at "xz") (by walk_at "xz") (by walk_at "xz") ?_ (by rfl);k_whole)
local macro_rules | `(tactic| walk_at "subscriptTail Name Name ref int")=>`(tactic| k_here;(with_reducible show wpAny _ _ (subscriptTail _ _ (.ref _) (.int ..)) ..);with_unfolding_all refine sub_at (by k_asm) (by k_mem) (by walk_at "xz") (by walk_at "xz") (by walk_at "xz") ?_ (by rfl);k_whole)
local macro_rules | `(tactic| walk_at "call builtin:len")=>`(tactic| k_here;with_unfolding_all refine len_at (by k_asm) (by k_mem) (by first | exact Nat.le_trans (by assumption) (by decide) | lia) ?_;k_whole)
namespace Siftdown
def P (A:Around) (s:Shared) (b:Heap) (Q E:VS) (D:Addr) (xs:List It) (n i j:Nat) (t u:Tok) (S:It->Prop) (Y:(It->It->Bool)->Prop) (Wd:Str->Prop) (outer:List Env) (g:Bool):Prop:=∀ (hd:A.depth<=500) (hu:A.units<=500) (hA:A.handled=none) (hfr:A.frames=some outer) (hff:b.FunFrames (fb b outer) outer)
  (st:b.StaysIn s.heap) (hsz:b.objs.size<=s.heap.objs.size) (X:(hd01.heap_1 w.params).In b) (T:Top p loose yQv mg mb b)
  (hD:s.heap.get? D=some (listOf (xs.map It.v).toArray n)) (hbD:b.get? D=none) (hS:∀ v∈xs,S v) (hlt:yZS prog w b S Y Wd)
  (h2:j < xs.length) (h3:xs.length<=1000)
  (h:∀ (ys:List It) h' tk,(∀ f,Y f->ys=sdown (fl g f) xs i j (xs.getD j it0))->b.StaysIn h'->h'.get? D=some (listOf (ys.map It.v).toArray n)->Q .none {s with heap:=h',toks:=tk})
  (hE:yJu "TypeError" E b outer s Wd),
  wpAny (model prog w) A (call (.ref (cond g 49 63)) [.ref D,.int i t,.int j u]) Q E s
def c:=ep (U17 P) ⟨({},(start default).1,default,fun O O=>True,fun O O=>True,0,[],0,0,0,0,0,fun O=>True,fun O=>True,fun O=>True,[],true)⟩
def zd1:=c.2.2.2.2.2.2.2.2
def A:=c.1
def s:=c.2.1
def b:=c.2.2.1
def D:=c.2.2.2.2.2.1
def xs:=c.2.2.2.2.2.2.1
def n:=c.2.2.2.2.2.2.2.1
def i:=zd1.1
def j:=zd1.2.1
def t:=zd1.2.2.1
def u:=zd1.2.2.2.1
def S:=zd1.2.2.2.2.1
def Y:=zd1.2.2.2.2.2.1
noncomputable def g:=zd1.2.2.2.2.2.2.2.2
def L':Addr:=s.heap.objs.size
theorem holds:P A s b c.2.2.2.1 c.2.2.2.2.1 D xs n i j t u S Y zd1.2.2.2.2.2.2.1 zd1.2.2.2.2.2.2.2.1 g:=by
 intro hd hu hA hfr hff st hsz X T hD hbD hS hlt h2 h3 h hE
 rcases yAC g with ⟨ea,ef⟩ | ⟨ea,ef⟩<;>(
 rw [ea]
 refine wpAny_call ?_
 walk_at "en"
 intro ha1 F hk
 have hL0:s.heap.get? L'=none:=qV (vC _)
 have hu':∀ env,(A.deeper env).units<=503:=fun env=>by rw [Around.deeper_units];exact (jg2 [_] 0xf00001f4d0fa3c0ab00001f7d hu)
 have N:News b L' ha1 [(D,listOf (xs.map It.v).toArray n)]:=fun p hp=>by
  rw [qC] at hp;subst hp;exact ⟨(hk _ _ hD),vB (qU hD),hbD⟩
 (try k_fold)
 walk_at "r0"
 rename_i ha2 Fa2 Na2
 refine yCP (fun c s'=>X5 fun ys h' tk m' u'=>A11 (s'={s with heap:=h',toks:=tk}) (Fr b L' h' m') (News b L' h' [(D,listOf (ys.map It.v).toArray n)]) (m' "heap"=some (.ref D)) (m' "startpos"=some (.int i t)) (m' "pos"=some (.int c u')) (m' "newitem"=some (xs.getD j it0).v) (c < ys.length) (ys.length=xs.length) ((∀ v∈ys,S v)) (∀ f,Y f->sdown (fl g f) ys i c (xs.getD j it0)=sdown (fl g f) xs i j (xs.getD j it0))) j ?_ ?_
 ·exact ⟨xs,ha2,_,_,u,rfl,Fa2,Na2,rfl,rfl,rfl,rfl,h2,rfl,hS,fun O O=>rfl⟩
 ·intro c s' hI'
  refine yDE hI' ?_
  intro ys h' tk m' u' es F' N' e1 e2 e3 e4 hc hlen hS' hI
  subst es
  clear Fa2 Na2 hI'
  have hq0:(c - 1) / 2 < ys.length:=vR (qZ (Nat.div_le_self _ _) (vD _ _)) hc
  walk_at "r0"
  ·rename_i hic' h3' h4 F4 N4
   simp only [toNat_natCast] at *
   have hic:i < c:=Int.ofNat_lt.mp hic'
   have hS1:S (xs.getD j it0):=hS _ (getD_mem h2)
   have hS2:S (ys.getD ((c - 1) / 2) it0):=hS' _ (getD_mem (jl4 [_,_,_,_] 0xf232cf32e1f0ab22cf102c hc (vE _ 2) (vD _ _)))
   refine hlt _ _ (by assumption) (by assumption) _ _ _ _ (qZ (hu' _) (by decide)) hA F4.keep (fun bb tk' hb=>?_) fun h' tk' e m t hx hm=>yVs (s:=s) hE hfr F4 hff hL0 st hx hm
   replace hb:=fun f hf=>(ef f _ _).trans (hb f hf)
   walk_at "r0"
   ·rename_i hl h5 h6 F6 N6
    simp only [upd,map_cons,map_nil,if_true,toNat_natCast] at N6
    refine ⟨(c - 1) / 2,half_lt (vR (vZ _) hic),_,_,_,_,_,rfl,F6,N6,by assumption,by assumption,rfl,by assumption,?_,?_,?_,fun f hf=>?_⟩
    ·rw [vH];exact (jl4 [_,_,_,_] 0xf232cf32e1f0ab22cf102c hc (vE _ 2) (vD _ _))
    ·rw [vH];exact (qH (jg2 [_,_] 0xf01f1ab0 (qD hlen :)) (jg2 [_,_] 0xf01f1ab0 (qD (hlen).symm :)))
    ·intro v hv
     rcases mem_or_eq_of_mem_set hv with hv | rfl
     ·exact hS' v hv
     ·exact hS2
    ·rw [<- hI f hf]
     conv=>rhs;rw [yJO]
     rw [dif_pos hic,qN ((hb f hf).trans hl)]
   ·rename_i hl h5 F5 N5
    simp only [upd,map_cons,map_nil,if_true,toNat_natCast] at N5
    refine h _ _ _ (fun f hf=>?_) F5.keep (N5 _ (qC.mpr rfl)).1
    rw [<- hI f hf,yJO,dif_pos hic,qM (by rw [hb f hf,hl];decide)]
  ·rename_i hl h5 F5 N5
   simp only [upd,map_cons,map_nil,if_true,toNat_natCast] at N5
   refine h _ _ _ (fun f hf=>?_) F5.keep (N5 _ (qC.mpr rfl)).1
   rw [<- hI f hf,yJO,dif_neg fun z=>hl (Int.ofNat_lt.mpr z)])
end Siftdown
theorem siftdown {A s b Q E D xs n i j t u S Y Wd outer g}:Siftdown.P A s b Q E D xs n i j t u S Y Wd outer g:=eps (P:=U17 Siftdown.P) Siftdown.holds (A,s,b,Q,E,D,xs,n,i,j,t,u,S,Y,Wd,outer,g)
namespace Siftup
def P (A:Around) (s:Shared) (b:Heap) (Q E:VS) (D:Addr) (xs:List It) (n i:Nat) (u:Tok) (S:It->Prop) (Y:(It->It->Bool)->Prop) (Wd:Str->Prop) (outer:List Env) (g:Bool):Prop:=∀ (hd:A.depth<=499) (hu:A.units<=490) (hA:A.handled=none) (hfr:A.frames=some outer) (hff:b.FunFrames (fb b outer) outer)
  (st:b.StaysIn s.heap) (hsz:b.objs.size<=s.heap.objs.size) (X:(hd01.heap_1 w.params).In b) (T:Top p loose yQv mg mb b)
  (hD:s.heap.get? D=some (listOf (xs.map It.v).toArray n)) (hbD:b.get? D=none) (hS:∀ v∈xs,S v) (hlt:yZS prog w b S Y Wd)
  (h2:i < xs.length) (h3:xs.length<=1000)
  (h:∀ (ys:List It) h' tk,(∀ f,Y f->ys=sup (fl g f) xs i i (xs.getD i it0))->b.StaysIn h'->h'.get? D=some (listOf (ys.map It.v).toArray n)->Q .none {s with heap:=h',toks:=tk})
  (hE:yJu "TypeError" E b outer s Wd),
  wpAny (model prog w) A (call (.ref (cond g 56 70)) [.ref D,.int i u]) Q E s
def c:=ep (U15 P) ⟨({},(start default).1,default,fun O O=>True,fun O O=>True,0,[],0,0,0,fun O=>True,fun O=>True,fun O=>True,[],true)⟩
def zd1:=c.2.2.2.2.2.2.2.2
def A:=c.1
def s:=c.2.1
def b:=c.2.2.1
def D:=c.2.2.2.2.2.1
def xs:=c.2.2.2.2.2.2.1
def n:=c.2.2.2.2.2.2.2.1
def i:=zd1.1
def u:=zd1.2.1
def S:=zd1.2.2.1
def Y:=zd1.2.2.2.1
def Wd:=zd1.2.2.2.2.1
noncomputable def g:=zd1.2.2.2.2.2.2
def L':Addr:=s.heap.objs.size
def IV:Nat->Shared->Prop:=fun c s'=>X8 fun ys pos h' tk m' u' u'' u3=>A14 (s'={s with heap:=h',toks:=tk}) (Fr b L' h' m') (News b L' h' [(D,listOf (ys.map It.v).toArray n)]) (m' "heap"=some (.ref D)) (m' "startpos"=some (.int i u)) (m' "pos"=some (.int (pos:Nat) u')) (m' "childpos"=some (.int (2 * ((pos:Nat):Int)+1) u'')) (m' "endpos"=some (.int (xs.length:Int) u3)) (m' "newitem"=some (xs.getD i it0).v) (pos < ys.length) (ys.length=xs.length) ((∀ v∈ys,S v)) ((∀ f,Y f->sup (fl g f) ys i pos (xs.getD i it0)=sup (fl g f) xs i i (xs.getD i it0))) (c=xs.length - pos)
theorem holds:P A s b c.2.2.2.1 c.2.2.2.2.1 D xs n i u S Y Wd zd1.2.2.2.2.2.1 g:=by
 intro hd hu hA hfr hff st hsz X T hD hbD hS hlt h2 h3 h hE
 rcases yAC g with ⟨ea,ef⟩ | ⟨ea,ef⟩<;>(
 rw [ea]
 refine wpAny_call ?_
 walk_at "en"
 intro ha1 F hk
 have hL0:s.heap.get? L'=none:=qV (vC _)
 have hu':∀ env,(A.deeper env).units<=493:=fun env=>by rw [Around.deeper_units];exact (jg2 [_] 0xf00001ead0fa3c0ab00001edd hu)
 have hd':∀ env,(A.deeper env).depth<=500:=fun env=>succ_le_succ hd
 have N:News b L' ha1 [(D,listOf (xs.map It.v).toArray n)]:=fun p hp=>by
  rw [qC] at hp;subst hp;exact ⟨(hk _ _ hD),vB (qU hD),hbD⟩
 have hLD:L'≠D:=vF (vB (qU hD))
 walk_at "r0"
 rename_i ha2 Fa2 Na2
 refine yCP IV (xs.length - i) ?_ ?_
 ·exact ⟨xs,i,ha2,_,_,u,_,_,rfl,Fa2,Na2,rfl,rfl,rfl,rfl,rfl,rfl,h2,rfl,hS,fun O O=>rfl,rfl⟩
 ·intro c s' hI'
  refine yDD hI' ?_
  intro ys pos h' tk m' u' u'' u3 es F' N' e1 e2 e3 e5 e6 e4 hc hlen hS' hI ec
  subst es
  clear Fa2 Na2 hI'
  have fin:∀ (q:Nat) (tk2:Tok) (h2:Heap) (m2:Str->Option Value) (v1 v2:Tok) (qi c:Int),(∀ f,Y f->q=kid (fl g f) ys pos)->pos < q->q < ys.length->2 * pos+1 < xs.length->qi=q->c=2 * (q:Int)+1->Fr b L' h2 m2->News b L' h2 [(D,listOf ((ys.set pos (ys.getD q it0)).map It.v).toArray n)]->m2 "heap"=some (.ref D)->
    m2 "startpos"=some (.int i u)->m2 "pos"=some (.int qi v1)->m2 "childpos"=some (.int c v2)->m2 "endpos"=some (.int (xs.length:Int) u3)->m2 "newitem"=some (xs.getD i it0).v->
    yDK IV (xs.length - pos) {s with heap:=h2,toks:=tk2}:=by
   intro q tk2 h2 m2 v1 v2 qi c hq g1 g2 hle eq1 eq2 F2 N2 a1 a2 a3 a4 a5 a6
   subst eq1 eq2
   refine ⟨xs.length - q,Nat.sub_lt_sub_left (by rw [<- hlen];exact vV g1 g2) g1,_,_,_,_,_,_,_,_,rfl,F2,N2,a1,a2,a3,a4,a5,a6,by rw [vH];exact g2,by rw [vH];exact hlen,fun v hv=>?_,fun f hf=>?_,rfl⟩
   ·rcases mem_or_eq_of_mem_set hv with hv | rfl
    ·exact hS' v hv
    ·exact hS' _ (getD_mem g2)
   ·rw [<- hI f hf]
    conv=>rhs;rw [yYr]
    rw [dif_pos (jl3 [_,_,_] 0xf2abab2e1f02fab2e10 (qD (hlen).symm :) hle),<- hq f hf]
  subst ec
  walk_at "r0"
  ·rename_i q1 h4 F4 N4 q2
   have n1:(2 * (pos:Int)+1).toNat=2 * pos+1:=rfl
   have n2:(2 * (pos:Int)+1+1).toNat=2 * pos+2:=rfl
   have m1:2 * pos+1 < xs.length:=Int.ofNat_lt.mp (show 2 * (pos:Int)+1 < (xs.length:Int) by assumption)
   have m2:2 * pos+2 < xs.length:=Int.ofNat_lt.mp (show 2 * (pos:Int)+1+1 < (xs.length:Int) by assumption)
   rw [<- hlen] at m2
   have hS1:S (ys.getD (2 * pos+1) it0):=hS' _ (getD_mem (Nat.lt_of_succ_lt m2))
   have hS2:S (ys.getD (2 * pos+2) it0):=hS' _ (getD_mem m2)
   simp only [n1,n2]
   refine hlt _ _ (by assumption) (by assumption) _ _ _ _ (qZ (hu' _) (by decide)) hA F4.keep (fun bb tk' hb=>?_) fun h' tk' e m t hx hm=>yVs (s:=s) hE hfr F4 hff hL0 st hx hm
   replace hb:=fun f hf=>(ef f _ _).trans (hb f hf)
   walk_at "r0"
   ·rename_i q3 _ _ h5 F5 N5
    simp only [upd,map_cons,map_nil,if_true,toNat_natCast,n1] at N5
    exact fin (2 * pos+1) _ _ _ _ _ _ _ (fun f hf=>by unfold kid;rw [qM];rintro ⟨_,q⟩;exact absurd (q3.symm.trans ((hb f hf).symm.trans q)) (by decide)) (jl1 [_] 0xf0ab2e0 ) (Nat.lt_of_succ_lt m2) m1 rfl rfl F5 N5 (by assumption) (by assumption) rfl rfl (by assumption) (by assumption)
   ·rename_i q3 _ _ _ h5 F5 N5
    simp only [upd,map_cons,map_nil,if_true,toNat_natCast,n2] at N5
    exact fin (2 * pos+2) _ _ _ _ _ _ _ (fun f hf=>by unfold kid;rw [qN];exact ⟨m2,(hb f hf).trans q3⟩) (jl1 [_] 0xf0a2c2e0 ) m2 m1 rfl rfl F5 N5 (by assumption) (by assumption) rfl rfl (by assumption) (by assumption)
  ·rename_i q1 _ q2 tk3 _ _ h5 F5 N5
   have n1:(2 * (pos:Int)+1).toNat=2 * pos+1:=rfl
   have m1:2 * pos+1 < xs.length:=Int.ofNat_lt.mp (show 2 * (pos:Int)+1 < (xs.length:Int) by assumption)
   have m2:¬ 2 * pos+2 < xs.length:=fun z=>(show ¬ 2 * (pos:Int)+1+1 < (xs.length:Int) by assumption) (Int.ofNat_lt.mpr z)
   simp only [upd,map_cons,map_nil,if_true,toNat_natCast,n1] at N5
   exact fin (2 * pos+1) _ _ _ _ _ _ _ (fun f hf=>by unfold kid;rw [qM];rintro ⟨q,_⟩;exact m2 (by rw [<- hlen];exact q)) (jl1 [_] 0xf0ab2e0 ) (by rw [hlen];exact m1) m1 rfl rfl F5 N5 (by assumption) (by assumption) rfl rfl (by assumption) (by assumption)
  ·rename_i q1 h4 F4 N4
   simp only [upd,map_cons,map_nil,if_true,toNat_natCast] at N4
   have z:=(N4 _ (qC.mpr rfl))
   refine yZE (ea 49 63) (siftdown (b:=hideAll h4 [D]) (S:=S) (Y:=Y) (Wd:=Wd) (hd' _) (qZ (hu' _) (by decide)) hA (vO hfr) (ff_call F4 hff (fun x hx=>by rw [qC.mp hx];exact ⟨vF hLD,hbD⟩) rfl) (fun x o e=>vL _ e) (qD (hideAll_size _ _)) (X.keeps (stays_hide F4.keep hbD)) (T.keeps (stays_hide F4.keep hbD)) z.1 (vK _ (qC.mpr rfl))
    ?_ (hlt.keeps (stays_hide F4.keep hbD)) (by rw [vH];exact hc) (by rw [vH];exact (jg3 [_,_] 0xf10f00003e8d1f0ab00003e8d h3 (qD hlen :))) ?_ ?_)
   ·intro v hv
    rcases mem_or_eq_of_mem_set hv with hv | rfl
    ·exact hS' v hv
    ·exact hS _ (getD_mem h2)
   ·intro zs h5 tk5 hz st5 hD5
    have F5:=fr_back F4 hLD hbD st5
    walk_at "r0"
    refine h _ _ _ (fun f hf=>?_) F5.keep hD5
    rw [<- hI f hf,yYr,dif_neg (fun z=>q1 (by rw [<- hlen];exact Int.ofNat_lt.mpr z)),hz f hf]
    simp [hc]
   ·exact fun ex h' tk fl=>yWB (s:=s) hE hfr F4 hff hL0 st (fun x hx=>by rw [qC.mp hx];exact hbD) fl)
end Siftup
theorem siftup {A s b Q E D xs n i u S Y Wd outer g}:Siftup.P A s b Q E D xs n i u S Y Wd outer g:=eps (P:=U15 Siftup.P) Siftup.holds (A,s,b,Q,E,D,xs,n,i,u,S,Y,Wd,outer,g)
noncomputable def hfy (lt:It->It->Bool) (xs:List It):Nat->List It
 | 0=>xs
 | k+1=>hfy lt (sup lt xs k k (xs.getD k it0)) k
theorem yVR {lt:It->It->Bool} {xs:List It} {sp pos:Nat} {x:It}:(sdown lt xs sp pos x).length=xs.length:=by
 refine yJk (M:=fun xs _ r=>r.length=xs.length) (fun xs pos _ _ ih=>?_) (fun xs pos _=>?_) xs pos
 ·rw [ih,vH]
 ·exact vH
theorem yVn {lt:It->It->Bool} {xs:List It} {sp pos:Nat} {x:It}:(sup lt xs sp pos x).length=xs.length:=by
 refine yVA (M:=fun xs _ r=>r.length=xs.length) (fun xs pos h ih=>?_) (fun xs pos h=>?_) xs pos
 ·rw [ih,vH]
 ·rw [yVR,vH]
theorem yYw {lt:It->It->Bool} {xs:List It} {sp pos:Nat} {x:It} (hp:pos < xs.length) (P:It->Prop) (hx:P x) (hP:∀ v∈xs,P v):∀ v∈sdown lt xs sp pos x,P v:=by
 have fin:∀ (xs:List It) (k:Nat) (y:It),P y->(∀ v∈xs,P v)->∀ v∈xs.set k y,P v:=fun xs k y hy h v hv=>by
  rcases mem_or_eq_of_mem_set hv with hv | rfl
  ·exact h v hv
  ·exact hy
 refine yJk (M:=fun xs pos r=>pos < xs.length->(∀ v∈xs,P v)->∀ v∈r,P v) (fun xs pos h hl ih hp hP=>?_) (fun xs pos _ hp hP=>?_) xs pos hp hP
 ·exact ih (by rw [vH];exact (jl4 [_,_,_,_] 0xf232cf32e1f0ab22cf102c hp (vE _ 2) (vD _ _))) (fin _ _ _ (hP _ (getD_mem (jl4 [_,_,_,_] 0xf232cf32e1f0ab22cf102c hp (vE _ 2) (vD _ _)))) hP)
 ·exact fin _ _ _ hx hP
theorem yXh {lt:It->It->Bool} {xs:List It} {sp pos:Nat} {x:It} (hp:pos < xs.length) (P:It->Prop) (hx:P x) (hP:∀ v∈xs,P v):∀ v∈sup lt xs sp pos x,P v:=by
 have fin:∀ (xs:List It) (k:Nat) (y:It),P y->(∀ v∈xs,P v)->∀ v∈xs.set k y,P v:=fun xs k y hy h v hv=>by
  rcases mem_or_eq_of_mem_set hv with hv | rfl
  ·exact h v hv
  ·exact hy
 refine yVA (M:=fun xs pos r=>pos < xs.length->(∀ v∈xs,P v)->∀ v∈r,P v) (fun xs pos h ih hp hP=>?_) (fun xs pos h hp hP=>?_) xs pos hp hP
 ·exact ih (by rw [vH];exact kid_lt h) (fin _ _ _ (hP _ (getD_mem (kid_lt h))) hP)
 ·exact yYw (by rw [vH];exact hp) P hx (fin _ _ _ hx hP)
theorem sup_mem {lt:It->It->Bool} {xs:List It} {sp pos:Nat} {x:It} (hp:pos < xs.length) (hx:x∈xs):∀ v∈sup lt xs sp pos x,v∈xs:=yXh hp (·∈xs) hx fun _ h=>h
namespace Heapify
def P (A:Around) (s:Shared) (b:Heap) (Q E:VS) (D:Addr) (xs:List It) (n:Nat) (S:It->Prop) (Y:(It->It->Bool)->Prop) (Wd:Str->Prop) (outer:List Env) (g:Bool):Prop:=∀ (hd:A.depth<=498) (hu:A.units<=480) (hA:A.handled=none) (hfr:A.frames=some outer) (hff:b.FunFrames (fb b outer) outer)
  (st:b.StaysIn s.heap) (hsz:b.objs.size<=s.heap.objs.size) (X:(hd01.heap_1 w.params).In b) (T:Top p loose yQv mg mb b)
  (hD:s.heap.get? D=some (listOf (xs.map It.v).toArray n)) (hbD:b.get? D=none) (hS:∀ v∈xs,S v) (hlt:yZS prog w b S Y Wd) (ne:∃ f,Y f)
  (h3:xs.length<=1000)
  (h:∀ (ys:List It) h' tk,(∀ f,Y f->ys=hfy (fl g f) xs (xs.length / 2))->b.StaysIn h'->h'.get? D=some (listOf (ys.map It.v).toArray n)->Q .none {s with heap:=h',toks:=tk})
  (hE:yJu "TypeError" E b outer s Wd),
  wpAny (model prog w) A (call (.ref (cond g 28 42)) [.ref D]) Q E s
def c:=ep (U13 P) ⟨({},(start default).1,default,fun O O=>True,fun O O=>True,0,[],0,fun O=>True,fun O=>True,fun O=>True,[],true)⟩
def zd1:=c.2.2.2.2.2.2.2.2
def A:=c.1
def s:=c.2.1
def b:=c.2.2.1
def D:=c.2.2.2.2.2.1
def xs:=c.2.2.2.2.2.2.1
def n:=c.2.2.2.2.2.2.2.1
def S:=zd1.1
def Y:=zd1.2.1
def Wd:=zd1.2.2.1
noncomputable def g:=zd1.2.2.2.2
def L':Addr:=s.heap.objs.size
def IV (I:Addr):Nat->Shared->Prop:=fun c s'=>X4 fun ys h' tk m'=>A8 (s'={s with heap:=h',toks:=tk}) (Fr b L' h' m') (News b L' h' [(D,listOf (ys.map It.v).toArray n),(I,krsIt ((c:Int) - 1) (c:Int) (-1))]) (m' "x"=some (.ref D)) (ys.length=xs.length) (c<=xs.length / 2) ((∀ v∈ys,S v)) (∀ f,Y f->hfy (fl g f) ys c=hfy (fl g f) xs (xs.length / 2))
theorem holds:P A s b c.2.2.2.1 c.2.2.2.2.1 D xs n S Y Wd zd1.2.2.2.1 g:=by
 intro hd hu hA hfr hff st hsz X T hD hbD hS hlt ne h3 h hE
 rcases yAC g with ⟨ea,ef⟩ | ⟨ea,ef⟩<;>(
 rw [ea]
 refine wpAny_call ?_
 walk_at "en"
 intro ha1 F hk
 have hL0:s.heap.get? L'=none:=qV (vC _)
 have hu':∀ env,(A.deeper env).units<=483:=fun env=>by rw [Around.deeper_units];exact (jg2 [_] 0xf00001e0d0fa3c0ab00001e3d hu)
 have hd':∀ env,(A.deeper env).depth<=499:=fun env=>succ_le_succ hd
 have N:News b L' ha1 [(D,listOf (xs.map It.v).toArray n)]:=fun p hp=>by
  rw [qC] at hp;subst hp;exact ⟨(hk _ _ hD),vB (qU hD),hbD⟩
 have hLD:L'≠D:=vF (vB (qU hD))
 walk_at "r0"
 refine wpAny_For ?_
 walk_at "r0"
 rename_i h2 tk2 h3' tk3 t1 u1 v1 hr F3 N3 k3
 dsimp only at hr k3
 have hdiv:((xs.length:Int)).fdiv 2=((xs.length / 2:Nat):Int):=by rw [Int.fdiv_eq_ediv_of_nonneg _ (by decide)];exact (Int.natCast_ediv _ _).symm
 rw [hdiv] at hr
 have hrs:Builtin.Range.rangeSize 0 ((xs.length / 2:Nat):Int) 1=((xs.length / 2:Nat):Int):=rangeSize_nat _ _
 refine yJf hr ?_ ?_
 ·unfold yJl Builtin.Range.rangeFitsLong;rw [hrs];simp;exact np39 (by assumption)
 have hI:(h3'.push (revRange 0 ((xs.length / 2:Nat):Int) 1)).get? h3'.objs.size=some (krsIt (((xs.length / 2:Nat):Int) - 1) ((xs.length / 2:Nat):Int) (-1)):=by
  rw [qX _ rfl];unfold revRange krsIt;rw [hrs];simp
 have hni:=next_is_new F3
 have F4:=F3.push (revRange 0 ((xs.length / 2:Nat):Int) 1)
 have N4:=N3.push F3 (revRange 0 ((xs.length / 2:Nat):Int) 1)
 have hIL:h3'.objs.size≠L':=ne_of_gt F3.ns.lt
 have hID:h3'.objs.size≠D:=ne_of_gt (qU (N3 _ (qC.mpr rfl)).1)
 generalize hHI:h3'.objs.size=I at *
 refine wpAny_pyIter_rangeiter hI ?_
 have N5:News b L' (h3'.push (revRange 0 ((xs.length / 2:Nat):Int) 1)) [(D,listOf (xs.map It.v).toArray n),(I,krsIt (((xs.length / 2:Nat):Int) - 1) ((xs.length / 2:Nat):Int) (-1))]:=fun p hp=>by
  rcases qG.mp hp with rfl | hp
  ·exact N4 _ (.tail _ (.head _))
  ·rw [qC.mp hp];exact ⟨hI,hIL,hni⟩
 refine yCQ (IV I) (xs.length / 2) ⟨xs,_,_,_,rfl,F4,N5,rfl,rfl,vC _,hS,fun O O=>rfl⟩ ?_
 clear F4 N5 N4 hI F3 N3 k3 hr
 intro c s' hI'
 refine e4_8 hI' ?_
 intro ys h' tk m' es F' N' e1 hlen hc hS' hI
 subst es
 clear hI'
 have mI:(I,krsIt ((c:Int) - 1) (c:Int) (-1))∈[(D,listOf (ys.map It.v).toArray n),(I,krsIt ((c:Int) - 1) (c:Int) (-1))]:=.tail _ (.head _)
 have nI:=N' _ mI
 by_cases hc0:c=0
 ·subst hc0
  refine wpAny_pyNext_range_end hA nI.1 (by simp) fun h5 k5=>?_
  have F5:=fr_ext F' (vF hIL) hni k5
  have hD5:h5.get? D=some (listOf (ys.map It.v).toArray n):=k5 _ _ (vF hID) (N' _ (.head _)).1
  walk_at "r0"
  exact h _ _ _ (fun f hf=>hI f hf) F5.keep hD5
 ·refine wpAny_pyNext_range_item nI.1 (Int.ofNat_lt.2 (vP hc0)) fun h5 it5 k5=>?_
  have F5:=fr_change F' N' mI k5
  have N5:=news_upd' N' mI k5 it5
  have hx:((c:Int) - 1)=((c - 1:Nat):Int):=np13 (by assumption)
  simp only [upd,map_cons,map_nil,if_true,qM (vF hID)] at N5
  rw [hx]
  walk_at "r0"
  rename_i h6 F6 N6
  have z:=N6 _ (.head _)
  refine yZE (ea 56 70) (siftup (b:=hideAll h6 [D]) (S:=S) (Y:=Y) (Wd:=Wd) (hd' _) (qZ (hu' _) (by decide)) hA (vO hfr) (ff_call F6 hff (fun x hx=>by rw [qC.mp hx];exact ⟨vF hLD,hbD⟩) rfl) (fun x o e=>vL _ e) (qD (hideAll_size _ _)) (X.keeps (stays_hide F6.keep hbD)) (T.keeps (stays_hide F6.keep hbD)) z.1 (vK _ (qC.mpr rfl)) hS' (hlt.keeps (stays_hide F6.keep hbD)) (jl6 [_,_,_,_,_] 0xf22e4f31f3bf432cf02f10 (qD (hlen).symm :) hc (vP hc0 :) (vD _ _) (vE _ 2)) (jg3 [_,_] 0xf10f00003e8d1f0ab00003e8d h3 (qD hlen :)) ?_ ?_)
  ·intro zs h7 tk7 hz st7 hD7
   have F7:=fr_back F6 hLD hbD st7
   have N7:=yYJ N6 (.head _) st7 hD7
   simp only [upd,map_cons,map_nil,if_true,qM hID] at N7
   clear F6 N6
   walk_at "r0"
   have e9:((c:Int) - 1+-1)=((c - 1:Nat):Int) - 1:=wE (·+-1) hx
   rw [e9,hx] at N7
   obtain ⟨f0,hf0⟩:=ne
   refine ⟨c - 1,(jl2 [_,_] 0xf0ab1f10 (nc (jg2 [_] 0xf0bfbab0 (vP hc0 :)))),_,_,_,_,rfl,F7,N7,by assumption,?_,(jg3 [_,_,_] 0xf21f02f1ab0 hc (vD _ _)),?_,fun f hf=>?_⟩
   ·rw [hz f0 hf0,yVn];exact hlen
   ·rw [hz f0 hf0];intro v hv;exact hS' v ((sup_mem (jl6 [_,_,_,_,_] 0xf22e4f31f3bf432cf02f10 (qD (hlen).symm :) hc (vP hc0 :) (vD _ _) (vE _ 2)) (getD_mem (jl6 [_,_,_,_,_] 0xf22e4f31f3bf432cf02f10 (qD (hlen).symm :) hc (vP hc0 :) (vD _ _) (vE _ 2)))) v hv)
   ·rw [hz f hf,<- hI f hf]
    obtain ⟨c',rfl⟩:∃ c',c=c'+1:=⟨c - 1,by exact (qH (jg2 [_,_] 0xfab01f1abab0 na) (jg2 [_,_] 0xf0ab1fab1ab0 (nc (jg2 [_] 0xf0bfbab0 (vP hc0 :)))))⟩
    rfl
  ·exact fun ex h' tk fl=>yZy (s:=s) hE hfr F6 hff hL0 st (fun x hx=>by rw [qC.mp hx];exact hbD) fl)
end Heapify
theorem yBL {A s b Q E D xs n S Y Wd outer g}:Heapify.P A s b Q E D xs n S Y Wd outer g:=eps (P:=U13 Heapify.P) Heapify.holds (A,s,b,Q,E,D,xs,n,S,Y,Wd,outer,g)
namespace Heapreplace
def P (A:Around) (s:Shared) (b:Heap) (Q E:VS) (D:Addr) (xs:List It) (n:Nat) (y:It) (S:It->Prop) (Y:(It->It->Bool)->Prop) (Wd:Str->Prop) (outer:List Env) (g:Bool):Prop:=∀ (hd:A.depth<=498) (hu:A.units<=480) (hA:A.handled=none) (hfr:A.frames=some outer) (hff:b.FunFrames (fb b outer) outer)
  (st:b.StaysIn s.heap) (hsz:b.objs.size<=s.heap.objs.size) (X:(hd01.heap_1 w.params).In b) (T:Top p loose yQv mg mb b)
  (hD:s.heap.get? D=some (listOf (xs.map It.v).toArray n)) (hbD:b.get? D=none) (hS:∀ v∈xs,S v) (hy:S y) (hlt:yZS prog w b S Y Wd) (ne:∃ f,Y f)
  (h1:0 < xs.length) (h3:xs.length<=1000)
  (h:∀ v (ys:List It) h' tk,(∀ f,Y f->ys=sup (fl g f) (xs.set 0 y) 0 0 y)->b.StaysIn h'->h'.get? D=some (listOf (ys.map It.v).toArray n)->Q v {s with heap:=h',toks:=tk})
  (hE:yJu "TypeError" E b outer s Wd),
  wpAny (model prog w) A (call (.ref (cond g 21 35)) [.ref D,y.v]) Q E s
def c:=ep (U14 P) ⟨({},(start default).1,default,fun O O=>True,fun O O=>True,0,[],0,it0,fun O=>True,fun O=>True,fun O=>True,[],true)⟩
def zd1:=c.2.2.2.2.2.2.2.2
def A:=c.1
def s:=c.2.1
def b:=c.2.2.1
def D:=c.2.2.2.2.2.1
def xs:=c.2.2.2.2.2.2.1
def n:=c.2.2.2.2.2.2.2.1
def y:=zd1.1
def S:=zd1.2.1
def Y:=zd1.2.2.1
def Wd:=zd1.2.2.2.1
noncomputable def g:=zd1.2.2.2.2.2
def L':Addr:=s.heap.objs.size
theorem holds:P A s b c.2.2.2.1 c.2.2.2.2.1 D xs n y S Y Wd zd1.2.2.2.2.1 g:=by
 intro hd hu hA hfr hff st hsz X T hD hbD hS hy hlt ne h1 h3 h hE
 rcases yAC g with ⟨ea,ef⟩ | ⟨ea,ef⟩<;>(
 rw [ea]
 refine wpAny_call ?_
 walk_at "en"
 intro ha1 F hk
 have hL0:s.heap.get? L'=none:=qV (vC _)
 have hu':∀ env,(A.deeper env).units<=483:=fun env=>by rw [Around.deeper_units];exact (jg2 [_] 0xf00001e0d0fa3c0ab00001e3d hu)
 have hd':∀ env,(A.deeper env).depth<=499:=fun env=>succ_le_succ hd
 have N:News b L' ha1 [(D,listOf (xs.map It.v).toArray n)]:=fun p hp=>by
  rw [qC] at hp;subst hp;exact ⟨(hk _ _ hD),vB (qU hD),hbD⟩
 have hLD:L'≠D:=vF (vB (qU hD))
 walk_at "r0"
 rename_i h6 F6 N6
 simp only [upd,map_cons,map_nil,if_true] at N6
 have z:=N6 _ (qC.mpr rfl)
 refine yZE (ea 56 70) (siftup (b:=hideAll h6 [D]) (i:=0) (S:=S) (Y:=Y) (Wd:=Wd) (hd' _) (qZ (hu' _) (by decide)) hA (vO hfr) (ff_call F6 hff (fun x hx=>by rw [qC.mp hx];exact ⟨vF hLD,hbD⟩) rfl) (fun x o e=>vL _ e) (qD (hideAll_size _ _)) (X.keeps (stays_hide F6.keep hbD)) (T.keeps (stays_hide F6.keep hbD)) z.1 (vK _ (qC.mpr rfl)) ?_ (hlt.keeps (stays_hide F6.keep hbD)) (by rw [vH];exact (jl2 [_] 0xf0ab0cf0c0 h1)) (by rw [vH];exact (jg2 [_] 0xf00003e8d0f0ab00003e8d h3)) ?_ ?_)
 ·intro v hv
  rcases mem_or_eq_of_mem_set hv with hv | rfl
  ·exact hS v hv
  ·exact hy
 ·intro zs h7 tk7 hz st7 hD7
  have F7:=fr_back F6 hLD hbD st7
  clear F6 N6
  walk_at "r0"
  refine h _ _ _ _ (fun f hf=>?_) F7.keep hD7
  rw [hz f hf]
  have e:((xs.set (Int.toNat 0) y).getD 0 it0)=y:=by simp [h1]
  rw [e]
  rfl
 ·exact fun ex h' tk fl=>yWB (s:=s) hE hfr F6 hff hL0 st (fun x hx=>by rw [qC.mp hx];exact hbD) fl)
end Heapreplace
theorem yWS {A s b Q E D xs n y S Y Wd outer g}:Heapreplace.P A s b Q E D xs n y S Y Wd outer g:=eps (P:=U14 Heapreplace.P) Heapreplace.holds (A,s,b,Q,E,D,xs,n,y,S,Y,Wd,outer,g)
set_option tactic.hygienic false
section
variable {lt:It->It->Bool}
structure SW (lt:It->It->Bool):Prop where
 asym:∀ a b,lt a b=true->lt b a=false
 ntr:∀ a b c,lt a b=false->lt b c=false->lt a c=false
theorem SW.irr (o:SW lt) (a:It):lt a a=false:=by
 cases h:lt a a with
 | false=>rfl
 | true=>have:=o.asym _ _ h;rw [h] at this;cases this
theorem yAS {j:Nat}:SW (ltK j):=⟨fun O O=>yXr,fun O O O=>yYS⟩
theorem SW.flip (o:SW lt):SW fun a b=>lt b a:=⟨fun a b h=>o.asym _ _ h,fun a b c h1 h2=>o.ntr _ _ _ h2 h1⟩
noncomputable abbrev ge (xs:List It) (k:Nat):It:=xs.getD k it0
theorem yQz {xs:List It} {k i:Nat} {y:It} (hk:k < xs.length):ge (xs.set k y) i=if i=k then y else ge xs i:=by
 unfold ge
 by_cases e:i=k
 ·subst e;simp [hk]
 ·rw [qM e];simp [List.getElem?_set,vF e]
theorem swap_perm {xs:List It} {i j:Nat} {x:It} (hi:i < xs.length) (hj:j < xs.length) (hne:i≠j):((xs.set i (ge xs j)).set j x).Perm (xs.set i x):=by
 have hc:∀ a:It,∀ (l:List It) (k:Nat) (hk:k < l.length) (y:It),(l.set k y).Perm (y::l.eraseIdx k):=by
  intro a l
  induction l with
  | nil=>intro k hk;simp at hk
  | cons b l ih=>
   intro k hk y
   cases k with
   | zero=>simp
   | succ k=>
    simp only [List.set_cons_succ,List.eraseIdx_cons_succ]
    exact ((ih k (by simpa using hk) y).cons b).trans (List.Perm.swap _ _ _)
 have h1:=hc x (xs.set i (ge xs j)) j (by simpa using hj) x
 have h2:=hc x xs i hi x
 have h3:((xs.set i (ge xs j)).eraseIdx j).Perm (xs.eraseIdx i):=by
  have e1:=hc x xs i hi (ge xs j)
  have e2:=hc x (xs.set i (ge xs j)) j (by simpa using hj) (ge xs j)
  have e3:(xs.set i (ge xs j)).set j (ge xs j)=xs.set i (ge xs j):=by
   apply ext_getElem
   ·simp
   ·intro k hk hk'
    by_cases q:k=j
    ·subst q
     simp only [List.getElem_set_self]
     rw [List.getElem_set_ne hne]
     simp [ge,hj]
    ·rw [List.getElem_set_ne (vF q)]
  rw [e3] at e2
  exact (List.perm_cons _).mp (e2.symm.trans e1)
 exact h1.trans ((h3.cons x).trans h2.symm)
theorem sdown_perm {xs:List It} {sp pos:Nat} {x:It} (hp:pos < xs.length):(sdown lt xs sp pos x).Perm (xs.set pos x):=by
 refine yJk (M:=fun xs pos r=>pos < xs.length->r.Perm (xs.set pos x)) (fun xs pos h hl ih hp=>?_) (fun xs pos _ hp=>?_) xs pos hp
 ·exact (ih (by rw [vH];exact (jl4 [_,_,_,_] 0xf232cf32e1f0ab22cf102c hp (vE _ 2) (vD _ _)))).trans (swap_perm hp (jl4 [_,_,_,_] 0xf232cf32e1f0ab22cf102c hp (vE _ 2) (vD _ _)) (by exact (fun zzq=>nq4 [_,_,_,_] 0xf03f32e1f0ab2f102c (qD zzq :) h (vE _ 2) (vD _ _))))
 ·exact .refl _
theorem sup_perm {xs:List It} {sp pos:Nat} {x:It} (hp:pos < xs.length):(sup lt xs sp pos x).Perm (xs.set pos x):=by
 refine yVA (M:=fun xs pos r=>pos < xs.length->r.Perm (xs.set pos x)) (fun xs pos h ih hp=>?_) (fun xs pos h hp=>?_) xs pos hp
 ·have g1:=kid_gt (lt:=lt) (xs:=xs) (pos:=pos)
  have g2:=kid_lt (lt:=lt) h
  exact (ih (by rw [vH];exact g2)).trans (swap_perm hp g2 (by exact (fun zzq=>nq2 [_,_] 0xf0ab1f10 (qD (zzq).symm :) g1)))
 ·refine (sdown_perm (by rw [vH];exact hp)).trans ?_
  rw [List.set_set]
theorem yWT (q:Nat):(q - 1) / 2<=q:=qZ (Nat.div_le_self _ _) (vD _ _)
theorem par {j p:Nat} (h:0 < j) (e:(j - 1) / 2=p):j=2 * p+1\/j=2 * p+2:=by
 cases j with
 | zero=>cases h
 | succ k=>
  have q:=Nat.div_add_mod k 2
  rw [show k / 2=p from e] at q
  rcases Nat.mod_two_eq_zero_or_one k with m | m<;>rw [m] at q
  ·exact .inl (wE (·+1) q.symm)
  ·exact .inr (wE (·+1) q.symm)
inductive yAP (s:Nat):Nat->Prop
 | refl:yAP s s
 | kid {p c:Nat}:yAP s p->(c - 1) / 2=p->0 < c->yAP s c
theorem yAP.le {s d:Nat} (h:yAP s d):s<=d:=by
 induction h with
 | refl=>exact vC _
 | kid _ e _ ih=>exact qZ ih (by rw [<- e];exact yWT _)
theorem yAP.up {s d:Nat} (h:yAP s d) (hn:s < d):yAP s ((d - 1) / 2):=by
 cases h with
 | refl=>exact absurd hn (lt_irrefl _)
 | kid h e _=>rw [e];exact h
structure yDa (lt:It->It->Bool) (xs:List It) (s p:Nat):Prop where
 desc:yAP s p
 ok:∀ j,0 < j->j < xs.length->s<=(j - 1) / 2->j≠p->(j - 1) / 2≠p->lt (ge xs j) (ge xs ((j - 1) / 2))=false
 far:∀ j,0 < j->j < xs.length->(j - 1) / 2=p->s < p->lt (ge xs j) (ge xs ((p - 1) / 2))=false
def yQl (lt:It->It->Bool) (xs:List It) (s:Nat):Prop:=∀ j,0 < j->j < xs.length->s<=(j - 1) / 2->lt (ge xs j) (ge xs ((j - 1) / 2))=false
theorem yXD (o:SW lt) {xs:List It} {s p:Nat} {x:It} (hp:p < xs.length) (H:yDa lt xs s p) (hk:∀ j,0 < j->j < xs.length->(j - 1) / 2=p->lt (ge xs j) x=false):yQl lt (sdown lt xs s p x) s:=by
 have fin:∀ (xs:List It) (p:Nat),p < xs.length->yDa lt xs s p->(∀ j,0 < j->j < xs.length->(j - 1) / 2=p->lt (ge xs j) x=false)->(s < p->lt x (ge xs ((p - 1) / 2))=false)->yQl lt (xs.set p x) s:=by
  intro xs p hp H hk hr j h0 hj hs
  rw [vH] at hj
  rw [yQz hp,yQz hp]
  by_cases e:j=p
  ·subst e
   rw [qN rfl,qM (by exact (fun zzq=>nq4 [_,_,_] 0xf02f22e1f0ab0cf102c (qD (zzq).symm :) h0 (vE _ 2) (vD _ _)))]
   exact hr (jl5 [_,_,_,_] 0xf03f32e2f212cf0ab0cf102c h0 hs (vE _ 2) (vD _ _))
  ·rw [qM e]
   by_cases e2:(j - 1) / 2=p
   ·rw [qN e2];exact hk j h0 hj e2
   ·rw [qM e2];exact H.ok j h0 hj hs e e2
 refine yJk (M:=fun xs p r=>p < xs.length->yDa lt xs s p->(∀ j,0 < j->j < xs.length->(j - 1) / 2=p->lt (ge xs j) x=false)->yQl lt r s) (fun xs p h hl ih hp H hk=>?_) (fun xs p h hp H hk=>fin xs p hp H hk h) xs p hp H hk
 ·have hd:=H.desc.up h
  have hq:=hd.le
  generalize hQ:(p - 1) / 2=q at *
  have hqp:q < p:=(jl5 [_,_,_,_,_] 0xf04f42e3f312cf0ab2f102c h (qD (hQ).symm :) (vE _ 2) (vD _ _))
  refine ih (by rw [vH];exact (jl3 [_,_,_] 0xf2ab1f0ab2f10 hp hqp)) ⟨hd,fun j h0 hj hs hj1 hj2=>?_,fun j h0 hj he hsq=>?_⟩ fun j h0 hj he=>?_
  ·rw [vH] at hj
   rw [yQz hp,yQz hp]
   by_cases e:j=p
   ·subst e;exact absurd hQ hj2
   ·rw [qM e]
    by_cases e2:(j - 1) / 2=p
    ·rw [qN e2]
     have:=H.far j h0 hj e2 h
     rw [hQ] at this;exact this
    ·rw [qM e2];exact H.ok j h0 hj hs e e2
  ·rw [vH] at hj
   have up:=hd.up hsq
   have hul:=up.le
   rw [yQz hp,yQz hp,qM (show ¬ (q - 1) / 2=p from fun z=>absurd hqp (vX.mpr (by rw [<- z];exact yWT q)))]
   have base:=H.ok q (jl2 [_,_] 0xf0ab1f0c0 hsq) (jl3 [_,_,_] 0xf2ab1f0ab2f10 hp hqp) hul (by exact (fun zzq=>nq2 [_,_] 0xf0ab1f10 (qD (zzq).symm :) hqp)) (fun z=>absurd hqp (vX.mpr (by rw [<- z];exact yWT q)))
   by_cases e:j=p
   ·rw [qN e];exact base
   ·rw [qM e]
    have:=H.ok j h0 hj (jg3 [_,_,_] 0xf02f21f1ab0 hq (qD (he).symm :)) e (by exact (fun zzq=>nq3 [_,_,_] 0xf21f0ab2f10 (qD (zzq).symm :) hqp (qD he :)))
    rw [he] at this
    exact o.ntr _ _ _ this base
  ·rw [vH] at hj
   rw [yQz hp]
   by_cases e:j=p
   ·rw [qN e];exact o.asym _ _ hl
   ·rw [qM e]
    have:=H.ok j h0 hj (jg3 [_,_,_] 0xf02f21f1ab0 hq (qD (he).symm :)) e (by exact (fun zzq=>nq3 [_,_,_] 0xf21f0ab2f10 (qD (zzq).symm :) hqp (qD he :)))
    rw [he] at this
    exact o.ntr _ _ _ this (o.asym _ _ hl)
theorem yZc {xs:List It} {p:Nat}:kid lt xs p=2 * p+1\/kid lt xs p=2 * p+2:=by unfold kid;split<;>simp
set_option tactic.hygienic true in
theorem yZb (o:SW lt) {xs:List It} {p j:Nat} (hj:j < xs.length) (h0:0 < j) (he:(j - 1) / 2=p) (hlt:2 * p+1 < xs.length):lt (ge xs j) (ge xs (kid lt xs p))=false:=by
 have hj':j=2 * p+1\/j=2 * p+2:=par h0 he
 unfold kid
 split
 ·rename_i h
  rcases hj' with rfl | rfl
  ·exact h.2
  ·exact o.irr _
 ·rename_i h
  rcases hj' with rfl | rfl
  ·exact o.irr _
  ·cases q:lt (ge xs (2 * p+1)) (ge xs (2 * p+2)) with
   | true=>exact o.asym _ _ q
   | false=>exact absurd ⟨hj,q⟩ h
theorem yYq (o:SW lt) {xs:List It} {s p:Nat} {x:It} (hp:p < xs.length) (H:yDa lt xs s p):yQl lt (sup lt xs s p x) s:=by
 refine yVA (M:=fun xs p r=>p < xs.length->yDa lt xs s p->yQl lt r s) (fun xs p h ih hp H=>?_) (fun xs p h hp H=>?_) xs p hp H
 ·have g1:=kid_gt (lt:=lt) (xs:=xs) (pos:=p)
  have g2:=kid_lt (lt:=lt) h
  have g3:=yZc (lt:=lt) (xs:=xs) (p:=p)
  have kl:∀ j,0 < j->j < xs.length->(j - 1) / 2=p->lt (ge xs j) (ge xs (kid lt xs p))=false:=fun j h0 hj he=>yZb o hj h0 he h
  generalize kid lt xs p=c at *
  have hcp:(c - 1) / 2=p:=by
   rcases g3 with e | e<;>rw [e]
   ·exact Nat.mul_div_cancel_left p (by decide)
   ·exact Nat.mul_add_div (by decide) p 1
  have hsp:=H.desc.le
  refine ih (by rw [vH];exact g2) ⟨H.desc.kid hcp (jl2 [_,_] 0xf0ab1f0c0 g1),fun j h0 hj hs hj1 hj2=>?_,fun j h0 hj he hsc=>?_⟩
  ·rw [vH] at hj
   rw [yQz hp,yQz hp]
   by_cases e:j=p
   ·subst e
    rw [qN rfl,qM (by exact (fun zzq=>nq4 [_,_,_] 0xf02f22e1f0ab0cf102c (qD (zzq).symm :) h0 (vE _ 2) (vD _ _)))]
    exact H.far c (jl3 [_,_] 0xf0ab1f1ab0cf0c0 h0 g1) g2 hcp (jl5 [_,_,_,_] 0xf03f32e2f212cf0ab0cf102c h0 hs (vE _ 2) (vD _ _))
   ·rw [qM e]
    by_cases e2:(j - 1) / 2=p
    ·rw [qN e2];exact kl j h0 hj e2
    ·rw [qM e2];exact H.ok j h0 hj hs e e2
  ·rw [vH] at hj
   rw [hcp,yQz hp,yQz hp,qN rfl,qM (by exact (fun zzq=>nq8 [_,_,_,_,_,_,_] 0xf06fab52f62e4fa2c2e3ab5f422cf132cf2ab13cf10 (qD zzq :) g1 (qD hcp :) (qD (he).symm :) nw2 (vE _ 2) na (vD _ _)))]
   have:=H.ok j h0 hj (jg3 [_,_,_] 0xf2ab1f02f1ab0 (qD (he).symm :) hsc) (by exact (fun zzq=>nq8 [_,_,_,_,_,_,_] 0xf06fab52f62e4fa2c2e3ab5f422cf132cf2ab13cf10 (qD zzq :) g1 (qD hcp :) (qD (he).symm :) nw2 (vE _ 2) na (vD _ _))) (by exact (fun zzq=>nq3 [_,_,_] 0xf02f2ab1f10 (qD zzq :) g1 (qD (he).symm :)))
   rw [he] at this;exact this
 ·refine yXD o (by rw [vH];exact hp) ⟨H.desc,fun j h0 hj hs hj1 hj2=>?_,fun j h0 hj he _=>?_⟩ fun j h0 hj he=>?_
  ·rw [vH] at hj
   rw [yQz hp,yQz hp,qM hj1,qM hj2]
   exact H.ok j h0 hj hs hj1 hj2
  ·rw [vH] at hj
   rcases par h0 he with e | e<;>rw [e] at hj
   ·exact absurd hj h
   ·exact absurd (Nat.lt_of_succ_lt hj) h
  ·rw [vH] at hj
   rcases par h0 he with e | e<;>rw [e] at hj
   ·exact absurd hj h
   ·exact absurd (Nat.lt_of_succ_lt hj) h
theorem yXi (o:SW lt) {xs:List It} {s:Nat} {x:It} (hs:s < xs.length) (H:yQl lt xs (s+1)):yQl lt (sup lt xs s s x) s:=
 yYq o hs ⟨.refl,fun j h0 hj h1 _ h3=>H j h0 hj (qQ h1 (vF h3)),fun _ _ _ _ h=>absurd h (lt_irrefl _)⟩
theorem yAy (o:SW lt) {xs:List It}:∀ k,k<=xs.length->yQl lt xs k->yQl lt (hfy lt xs k) 0/\(hfy lt xs k).Perm xs:=by
 intro k
 induction k generalizing xs with
 | zero=>intro _ H;exact ⟨H,.refl _⟩
 | succ k ih=>
  intro hk H
  have hk':k < xs.length:=(jl2 [_,_] 0xf0ab1f10 hk)
  have h1:=yXi o (x:=ge xs k) hk' H
  obtain ⟨a,b⟩:=ih (xs:=sup lt xs k k (ge xs k)) (by rw [yVn];exact (jg2 [_,_] 0xf0ab1f1ab0 hk)) h1
  refine ⟨a,b.trans ((sup_perm hk').trans ?_)⟩
  have:xs.set k (ge xs k)=xs:=by
   apply ext_getElem
   ·simp
   ·intro i hi hi'
    by_cases e:k=i
    ·subst e;simp [ge,hk']
    ·rw [List.getElem_set_ne e]
  rw [this]
theorem heapify_spec (o:SW lt) (xs:List It):yQl lt (hfy lt xs (xs.length / 2)) 0/\(hfy lt xs (xs.length / 2)).Perm xs:=
 yAy o _ (jg2 [_,_] 0xf02e1f1ab0 (vE _ 2)) fun j h0 hj hs=>by
  cases j with
  | zero=>cases h0
  | succ k=>
   have this:(k+2) / 2<=xs.length / 2:=Nat.div_le_div_right hj
   rw [Nat.add_div_right k (by decide)] at this
   exact absurd hs (Nat.not_le.mpr this)
theorem yZg (o:SW lt) {xs:List It} (H:yQl lt xs 0):∀ j,j < xs.length->lt (ge xs j) (ge xs 0)=false:=by
 intro j
 induction j using Nat.strongRecOn with
 | ind j ih=>
  intro hj
  by_cases e:j=0
  ·subst e;exact o.irr _
  ·exact o.ntr _ _ _ (H j (jl2 [_] 0xf0bf0c0 (vP e :)) hj (vZ _)) (ih ((j - 1) / 2) (jl4 [_,_,_] 0xf02f22e1f0bf102c (vP e :) (vE _ 2) (vD _ _)) (jl4 [_,_,_,_] 0xf232cf32e1f0ab22cf102c hj (vE _ 2) (vD _ _)))
theorem yJK (o:SW lt) {xs:List It} {y:It} (h1:0 < xs.length) (H:yQl lt xs 0):yQl lt (sup lt (xs.set 0 y) 0 0 y) 0/\(sup lt (xs.set 0 y) 0 0 y).Perm (xs.set 0 y):=by
 refine ⟨yXi o (by rw [vH];exact h1) fun j h0 hj hs=>?_,?_⟩
 ·rw [vH] at hj
  rw [yQz h1,yQz h1,qM (by exact (fun zzq=>nq2 [_] 0xf0ab0cf0c0 (qD zzq :) h0)),qM (by exact (fun zzq=>nq2 [_] 0xf0ab0cf0c0 (qD zzq :) hs))]
  exact H j h0 hj (vZ _)
 ·refine (sup_perm (by rw [vH];exact h1)).trans ?_
  rw [List.set_set]
end
section
variable {sc:Nat->Int}
def bet (sc:Nat->Int) (a b:Nat):Prop:=sc b < sc a\/(sc a=sc b/\a < b)
theorem yBW {a:Nat}:¬ bet sc a a:=by exact fun h=>h.elim (Int.lt_irrefl _) fun h=>lt_irrefl _ h.2
theorem bet_asym {a b:Nat} (h:bet sc a b):¬ bet sc b a:=by unfold bet at *;exact np20 h
theorem yCT {a b c:Nat} (h1:bet sc a b) (h2:bet sc b c):bet sc a c:=
 h1.elim (fun p=>.inl (h2.elim (fun q=>Int.lt_trans q p) fun q=>by rw [<- q.1];exact p)) fun p=>h2.elim (fun q=>.inl (by rw [p.1];exact q)) fun q=>.inr ⟨p.1.trans q.1,vV p.2 q.2⟩
noncomputable def insP (sc:Nat->Int) (p:Nat):List Nat->List Nat
 | []=>[p]
 | a::r=>if sc a < sc p then p::a::r else a::insP sc p r
noncomputable def ordD (sc:Nat->Int):Nat->List Nat
 | 0=>[]
 | m+1=>insP sc m (ordD sc m)
theorem insP_perm (p:Nat):∀ l,(insP sc p l).Perm (p::l)
 | []=>.refl _
 | a::r=>by
  unfold insP
  split
  ·exact .refl _
  ·exact ((insP_perm p r).cons a).trans (.swap _ _ _)
set_option tactic.hygienic true in
theorem yZf {p:Nat}:∀ {l:List Nat},l.Pairwise (bet sc)->(∀ a∈l,a < p)->(insP sc p l).Pairwise (bet sc)
 | [],_,_=>by simp [insP]
 | a::r,h,hl=>by
  obtain ⟨h1,h2⟩:=pairwise_cons.mp h
  unfold insP
  split
  ·rename_i hlt
   refine pairwise_cons.mpr ⟨fun b hb=>?_,h⟩
   rcases qG.mp hb with rfl | hb
   ·exact .inl hlt
   ·exact yCT (.inl hlt) (h1 b hb)
  ·rename_i hge
   refine pairwise_cons.mpr ⟨fun b hb=>?_,yZf h2 fun b hb=>hl b (mem_cons_of_mem _ hb)⟩
   rcases qG.mp ((insP_perm p r).mem_iff.mp hb) with rfl | hb
   ·have:=hl a (List.mem_cons_self ..)
    unfold bet;exact yDs (by assumption) (by assumption)
   ·exact h1 b hb
theorem ordD_perm:∀ m,(ordD sc m).Perm (List.range m)
 | 0=>.refl _
 | m+1=>by
  unfold ordD
  refine (insP_perm m _).trans (((ordD_perm m).cons m).trans ?_)
  rw [List.range_succ]
  exact (List.perm_append_singleton m (List.range m)).symm
theorem ordD_len (m:Nat):(ordD sc m).length=m:=by simpa using (ordD_perm (sc:=sc) m).length_eq
theorem ordD_mem {m p:Nat}:p∈ordD sc m↔p < m:=by simpa using (ordD_perm (sc:=sc) m).mem_iff
theorem ordD_pw:∀ m,(ordD sc m).Pairwise (bet sc)
 | 0=>.nil
 | m+1=>yZf (ordD_pw m) fun a ha=>ordD_mem.mp ha
theorem ordD_nodup (m:Nat):(ordD sc m).Nodup:=(ordD_perm m).nodup_iff.mpr nodup_range
theorem yWL {la1 la2:List Nat} (h1:la1.Pairwise (bet sc)) (h2:la2.Pairwise (bet sc)) (hp:la1.Perm la2):la1=la2:=
 hp.eq_of_pairwise (fun a b _ _ x y=>absurd y (bet_asym x)) h1 h2
theorem yVY {m:Nat} {l:List Nat} (h:l.Pairwise (bet sc)) (hp:l.Perm (List.range m)):l=ordD sc m:=yWL h (ordD_pw m) (hp.trans (ordD_perm m).symm)
theorem yXg:∀ {l:List Nat} {n p:Nat},l.Pairwise (bet sc)->n<=l.length->(∀ a∈l.take n,¬ sc a < sc p)->(insP sc p l).take n=l.take n
 | _,0,_,_,_,_=>by simp
 | [],n+1,_,_,h,_=>by simp at h
 | a::r,n+1,p,hp,hn,h=>by
  unfold insP
  rw [qM (h a (by simp))]
  simp only [take_succ_cons]
  rw [yXg (pairwise_cons.mp hp).2 (by simpa using hn) fun b hb=>h b (by simp [hb])]
theorem take_in:∀ {l:List Nat} {n p:Nat},l.Pairwise (bet sc)->n < l.length->sc (l.getD n 0) < sc p->((insP sc p l).take (n+1)).Perm (p::l.take n)
 | [],n,_,_,h,_=>by simp at h
 | a::r,0,p,hp,hn,h=>by
  unfold insP
  rw [qN (by simpa using h)]
  simp
 | a::r,n+1,p,hp,hn,h=>by
  unfold insP
  split
  ·simp
  ·simp only [take_succ_cons]
   have:=take_in (pairwise_cons.mp hp).2 (by simpa using hn:n < r.length) (by simpa using h)
   exact (this.cons a).trans (.swap _ _ _)
noncomputable def pl (u:It):Nat:=(u.k.getD 2 0).toNat
structure yZO (sc:Nat->Int) (lt:It->It->Bool) (n m:Nat) (its:List It):Prop where
 pos:0 < n
 le:n<=m
 len:its.length=n
 places:(its.map pl).Perm ((ordD sc m).take n)
 heap:yQl lt its 0
theorem yJi {l:List Nat} {n:Nat} (h0:0 < n) (hn:n<=l.length):l.take n=l.take (n - 1)++[l.getD (n - 1) 0]:=by
 obtain ⟨n,rfl⟩:∃ k,n=k+1:=⟨n - 1,by exact (qH (jg2 [_,_] 0xfab01f1abab0 na) (jg2 [_,_] 0xf0ab1fab1ab0 (nc (jg2 [_] 0xf0ab0cfbab0 h0))))⟩
 rw [List.take_add_one]
 simp [show n < l.length by exact (jl2 [_,_] 0xf0ab1f10 hn)]
theorem yZO.root (o:SW lt) {lt:It->It->Bool} {n m:Nat} {its:List It} (B:yZO sc lt n m its) (o:SW lt) (hlt:∀ u∈its,∀ v∈its,lt u v=true↔bet sc (pl v) (pl u)):
  pl (ge its 0)=(ordD sc m).getD (n - 1) 0:=by
 have hlen:=B.len
 have hpos:=B.pos
 have hm:ge its 0∈its:=getD_mem (jl3 [_,_] 0xf1ab0cf01f0c0 (qD (hlen).symm :) hpos)
 have hl:n<=(ordD sc m).length:=by rw [ordD_len];exact B.le
 have e:=yJi hpos hl
 have hlast:(ordD sc m).getD (n - 1) 0∈(ordD sc m).take n:=by rw [e];simp
 have hroot:pl (ge its 0)∈(ordD sc m).take n:=B.places.mem_iff.mp (List.mem_map_of_mem hm)
 by_cases q:pl (ge its 0)=(ordD sc m).getD (n - 1) 0
 ·exact q
 ·exfalso
  obtain ⟨v,hv,hvp⟩:=wB.mp (B.places.mem_iff.mpr hlast)
  have hb:bet sc (pl (ge its 0)) ((ordD sc m).getD (n - 1) 0):=by
   rw [e] at hroot
   rcases qF.mp hroot with h | h
   ·have pw:=(ordD_pw (sc:=sc) m).sublist (vQ n _)
    rw [e] at pw
    exact (vY.mp pw).2.2 _ h _ (by simp)
   ·exact absurd (by simpa using h) q
  rw [<- hvp] at hb
  have h1:lt v (ge its 0)=true:=(hlt v hv _ hm).mpr hb
  obtain ⟨j,hj,rfl⟩:=getElem_of_mem hv
  have h2:=yZg o B.heap j hj
  have:ge its j=its[j]:=by simp [ge,hj]
  rw [this,h1] at h2;cases h2
theorem yZO.out {lt:It->It->Bool} {n m:Nat} {its:List It} (B:yZO sc lt n m its) (o:SW lt) (hlt:∀ u∈its,∀ v∈its,lt u v=true↔bet sc (pl v) (pl u)) (h:¬ sc (pl (ge its 0)) < sc m):yZO sc lt n (m+1) its:=by
 have hr:=B.root o o hlt
 have hl:n<=(ordD sc m).length:=by rw [ordD_len];exact B.le
 refine ⟨B.pos,le_succ_of_le B.le,B.len,?_,B.heap⟩
 show (its.map pl).Perm ((insP sc m (ordD sc m)).take n)
 rw [yXg (ordD_pw m) hl fun a ha=>?_]
 ·exact B.places
 ·rw [hr] at h
  rw [yJi B.pos hl] at ha
  rcases qF.mp ha with ha | ha
  ·have pw:=(ordD_pw (sc:=sc) m).sublist (vQ n _)
   rw [yJi B.pos hl] at pw
   have:=(vY.mp pw).2.2 _ ha _ (qC.mpr rfl)
   unfold bet at this;exact fun z=>h (Int.lt_of_le_of_lt (this.elim Int.le_of_lt fun q=>Int.le_of_eq q.1.symm) z)
  ·rw [qC.mp ha];exact h
theorem yZO.in {lt:It->It->Bool} {n m:Nat} {its:List It} {y:It} (B:yZO sc lt n m its) (o:SW lt) (hlt:∀ u∈its,∀ v∈its,lt u v=true↔bet sc (pl v) (pl u)) (hy:pl y=m) (h:sc (pl (ge its 0)) < sc m):
  yZO sc lt n (m+1) (sup lt (its.set 0 y) 0 0 y):=by
 have hr:=B.root o o hlt
 have hlen:=B.len
 have hpos:=B.pos
 have hle:=B.le
 have hl:n<=(ordD sc m).length:=by rw [ordD_len];exact B.le
 obtain ⟨h1,h2⟩:=yJK o (y:=y) ((jl3 [_,_] 0xf1ab0cf01f0c0 (qD (hlen).symm :) hpos):0 < its.length) B.heap
 refine ⟨hpos,(jg2 [_,_] 0xf01f1abab0 hle),by rw [h2.length_eq,vH];exact hlen,?_,h1⟩
 refine (h2.map pl).trans ?_
 show ((its.set 0 y).map pl).Perm ((insP sc m (ordD sc m)).take n)
 obtain ⟨n',rfl⟩:∃ k,n=k+1:=⟨n - 1,by exact (qH (jg2 [_,_] 0xfab01f1abab0 na) (jg2 [_,_] 0xf0ab1fab1ab0 (nc (jg2 [_] 0xf0ab0cfbab0 hpos))))⟩
 refine List.Perm.trans ?_ (take_in (ordD_pw m) (jl2 [_,_] 0xf0ab1f10 hl) (by rw [hr] at h;simpa using h)).symm
 obtain ⟨a,r,rfl⟩:X2 fun a r=>its=a::r:=by
  cases its with
  | nil=>simp at hlen
  | cons a r=>exact ⟨a,r,rfl⟩
 simp only [List.set_cons_zero,map_cons,hy]
 refine List.Perm.cons _ ?_
 have p:=B.places
 rw [yJi hpos hl] at p
 have hr':pl a=(ordD sc m).getD (n'+1 - 1) 0:=by simpa [ge] using hr
 rw [map_cons,hr'] at p
 have p2:=p.trans (List.perm_append_singleton _ _)
 exact (List.perm_cons _).mp p2
theorem yYb {lt:It->It->Bool} (o:SW lt) {its:List It} (h0:0 < its.length) (hp:(its.map pl).Perm (List.range its.length)):yZO sc lt its.length its.length (hfy lt its (its.length / 2)):=by
 obtain ⟨h1,h2⟩:=heapify_spec o its
 refine ⟨h0,vC _,h2.length_eq,?_,h1⟩
 rw [take_of_length_le (by rw [ordD_len];exact vC _)]
 exact (h2.map pl).trans (hp.trans (ordD_perm _).symm)
theorem yAM {lt:It->It->Bool} {n m:Nat} {its zs:List It} (hp:(its.map pl).Perm ((ordD sc m).take n)) (hz:zs.Perm its) (hlt:∀ u∈its,∀ v∈its,lt u v=true->bet sc (pl v) (pl u)) (hs:zs.Pairwise (fun a b=>lt b a=true)):
  zs.map pl=(ordD sc m).take n:=by
 refine yWL (sc:=sc) ?_ ((ordD_pw m).sublist (vQ n _)) ((hz.map pl).trans hp)
 rw [pairwise_map]
 refine hs.imp_of_mem fun ha hb h=>?_
 exact hlt _ (hz.mem_iff.mp hb) _ (hz.mem_iff.mp ha) h
theorem yVW {lt:Nat->Nat->Bool} {rev:Bool} {N:Nat} {ord:List Nat} (ho:yQw lt rev N ord) (hlt:∀ a b,a < N->b < N->((if rev then lt b a else lt a b)=true↔sc b < sc a)):ord=ordD sc N:=by
 refine yVY ?_ ho.1
 have hm:∀ x∈ord,x < N:=fun x hx=>by simpa using ho.1.mem_iff.mp hx
 refine List.Pairwise.imp_of_mem ?_ ho.2
 intro a b ha hb h
 have e1:=hlt a b (hm a ha) (hm b hb)
 have e2:=hlt b a (hm b hb) (hm a ha)
 unfold bet
 cases rev with
 | false=>
  simp only [wH,if_false] at *
  rcases h with h | ⟨h,l⟩
  ·exact .inl (e1.mp h)
  ·have:¬ sc a < sc b:=fun q=>by rw [e2.mpr q] at h;cases h
   exact yDs this l
 | true=>
  simp only [if_true] at *
  rcases h with h | ⟨h,l⟩
  ·exact .inl (e1.mp h)
  ·have:¬ sc a < sc b:=fun q=>by
    have h':lt a b=false:=h
    rw [e2.mpr q] at h';cases h'
   exact yDs this l
end
section
variable {x:Nat->Nat->Int} {j:Nat} {e:Nat->Value} {Tup:It->Obj->Prop} {dn:Bool} {ts ts':List (Addr×Obj)} {its its':List It} {m:Nat} {od:Int}
noncomputable def ltD (j:Nat) (dn:Bool) (u v:It):Bool:=if dn then ltK j u v else ltK j v u
noncomputable def scD (dn:Bool) (x:Nat->Int) (p:Nat):Int:=if dn then x p else - x p
theorem sw_ltD:SW (ltD j dn):=by
 cases dn
 ·exact yAS.flip
 ·exact yAS
structure yQA (x:Nat->Nat->Int) (e:Nat->Value) (Tup:It->Obj->Prop) (dn:Bool) (ts:List (Addr×Obj)) (its:List It) (m:Nat) (od:Int):Prop where
 good:∀ u∈its,X3 fun T o p=>A6 (u.v=.ref T) (u.k=[x 0 p,x 1 p,(p:Int)]) (u.e=e p) (p < m) ((T,o)∈ts) (Tup u o)
 idx:∀ u∈its,∀ v∈its,(if dn then u.i < v.i else v.i < u.i)↔pl v < pl u
 ord:∀ u∈its,if dn then od < u.i else u.i < od
theorem yJJ {u:It} {p:Nat} (h:u.k=[x 0 p,x 1 p,(p:Int)]):pl u=p:=by unfold pl;rw [h];simp
theorem yDf {u:It} {p:Nat} (h:u.k=[x 0 p,x 1 p,(p:Int)]) (hj:j < 2):u.k.getD j 0=x j p:=by
 rw [h]
 have:j=0\/j=1:=np43 hj
 rcases this with rfl | rfl<;>rfl
theorem yQA.sub (I:yQA x e Tup dn ts its m od) (h:∀ u∈its',u∈its):yQA x e Tup dn ts its' m od:=
 ⟨fun u hu=>I.good u (h u hu),fun u hu v hv=>I.idx u (h u hu) v (h v hv),fun u hu=>I.ord u (h u hu)⟩
theorem yQA.skip (I:yQA x e Tup dn ts its m od):yQA x e Tup dn ts its (m+1) od:=
 ⟨fun u hu=>by obtain ⟨T,o,p,a,b,c,d,r,z⟩:=I.good u hu;exact ⟨T,o,p,a,b,c,lt_succ_of_lt d,r,z⟩,I.idx,I.ord⟩
theorem yQA.add {y:It} (I:yQA x e Tup dn ts its m od) (ht:∀ q∈ts,q∈ts') (hy:X2 fun T o=>A5 (y.v=.ref T) (y.k=[x 0 m,x 1 m,(m:Int)]) (y.e=e m) ((T,o)∈ts') (Tup y o)) (hi:y.i=od):
  yQA x e Tup dn ts' (y::its) (m+1) (if dn then od - 1 else od+1):=by
 obtain ⟨T,o,a,b,c,d,f⟩:=hy
 have py:pl y=m:=yJJ b
 have lt:∀ u∈its,pl u < m:=fun u hu=>by obtain ⟨T,o,p,a,b,c,d,r⟩:=I.good u hu;rw [yJJ b];exact d
 refine ⟨fun u hu=>?_,fun u hu v hv=>?_,fun u hu=>?_⟩
 ·rcases qG.mp hu with rfl | hu
  ·exact ⟨T,o,m,a,b,c,lt_succ_self _,d,f⟩
  ·obtain ⟨T,o,p,a,b,c,d,g,r⟩:=I.good u hu
   exact ⟨T,o,p,a,b,c,lt_succ_of_lt d,ht _ g,r⟩
 ·rcases qG.mp hu with eu | hu'
  ·rcases qG.mp hv with ev | hv'
   ·rw [eu,ev];cases dn<;>simp
   ·have o1:=I.ord v hv';have l1:=lt v hv'
    rw [eu,py,hi];cases dn<;>exact iff_of_true o1 l1
  ·rcases qG.mp hv with ev | hv'
   ·have o1:=I.ord u hu';have l1:=lt u hu'
    rw [ev,py,hi];cases dn<;>exact iff_of_false (Int.lt_asymm o1) (Nat.lt_asymm l1)
   ·exact I.idx u hu' v hv'
 ·rcases qG.mp hu with rfl | hu
  ·rw [hi];cases dn;exact Int.lt_succ od;exact Int.sub_lt_self od (by decide)
  ·have:=I.ord u hu
   cases dn;exact Int.lt_trans this (Int.lt_succ od);exact Int.lt_trans (Int.sub_lt_self od (by decide)) this
theorem yQA.hlt (I:yQA x e Tup dn ts its m od) (hj:j < 2):∀ u∈its,∀ v∈its,ltD j dn u v=true↔bet (scD dn (x j)) (pl v) (pl u):=by
 intro u hu v hv
 obtain ⟨T,o,p,a,b,c,d,r⟩:=I.good u hu
 obtain ⟨T',o',p',a',b',c',d',r'⟩:=I.good v hv
 have q:=I.idx u hu v hv
 rw [yJJ b,yJJ b'] at q ⊢
 unfold ltD bet scD ltK
 cases dn
 ·simp only [wH,if_false,yDf b hj,yDf b' hj] at q ⊢
  simp only [or_eq_true,and_eq_true,decide_eq_true_eq]
  rw [q];simp only [Int.neg_lt_neg_iff,Int.neg_inj]
 ·simp only [if_true,yDf b hj,yDf b' hj] at q ⊢
  simp only [or_eq_true,and_eq_true,decide_eq_true_eq]
  rw [q,eq_comm]
theorem yWd {l:List Nat} (h:l.Nodup) {i j:Nat} (hi:i < l.length) (hj:j < l.length) (e:l[i]=l[j]):i=j:=by
 rcases lt_trichotomy i j with q | q | q
 ·exact absurd e (pairwise_iff_getElem.mp h i j hi hj q)
 ·exact q
 ·exact absurd e.symm (pairwise_iff_getElem.mp h j i hj hi q)
theorem yQA.inj (I:yQA x e Tup dn ts its m od) (hn:(its.map pl).Nodup):∀ u∈its,∀ v∈its,u.i=v.i->u=v:=by
 intro u hu v hv hi
 have q1:=I.idx u hu v hv
 have q2:=I.idx v hv u hu
 have:pl u=pl v:=by cases dn<;>simp_all<;>lia
 clear q1 q2 hi
 obtain ⟨i,hi,rfl⟩:=getElem_of_mem hu
 obtain ⟨j,hj,rfl⟩:=getElem_of_mem hv
 have:i=j:=by
  exact yWd hn (i:=i) (j:=j) (by simpa using hi) (by simpa using hj) (by simpa using this)
 subst this;rfl
theorem yQA.nodup_i (I:yQA x e Tup dn ts its m od) (hn:(its.map pl).Nodup):(its.map It.i).Nodup:=by
 rw [List.nodup_iff_pairwise_ne,pairwise_map]
 rw [List.nodup_iff_pairwise_ne,pairwise_map] at hn
 refine List.Pairwise.imp_of_mem (R:=fun a b=>pl a≠pl b) (fun {a b} ha hb hne q=>hne ?_) hn
 have q1:=I.idx a ha b hb
 have q2:=I.idx b hb a ha
 cases dn<;>simp_all<;>lia
noncomputable def mkIts (x:Nat->Nat->Int) (e:Nat->Value) (dn:Bool) (rs:List (Value×List (Addr×Obj))):List It:=
 (List.range rs.length).map fun j=>{ v:=(rs.getD j (Value.none,[])).1,k:=[x 0 j,x 1 j,(j:Int)],i:=if dn then 0+(j:Int) * -1 else 0+(j:Int) * 1,e:=e j }
theorem yYM {rs:List (Value×List (Addr×Obj))}:(mkIts x e dn rs).length=rs.length:=by simp [mkIts]
theorem yBw {rs:List (Value×List (Addr×Obj))}:(mkIts x e dn rs).map It.v=rs.map (·.1):=by
 refine ext_getElem (by simp [mkIts]) fun i a b=>?_
 have hi:i < rs.length:=by simpa [mkIts] using a
 simp [mkIts,qR,hi]
theorem yAp {rs:List (Value×List (Addr×Obj))}:(mkIts x e dn rs).map pl=List.range rs.length:=by
 refine ext_getElem (by simp [mkIts]) fun i a b=>?_
 simp [mkIts,pl]
theorem yWN {rs:List (Value×List (Addr×Obj))} (h:∀ j r,rs[j]?=some r->X2 fun T o=>A3 (r.1=.ref T) (r.2=[(T,o)]) (Tup { v:=.ref T,k:=[x 0 j,x 1 j,(j:Int)],i:=if dn then 0+(j:Int) * -1 else 0+(j:Int) * 1,e:=e j } o)):
  yQA x e Tup dn (rs.flatMap (·.2)) (mkIts x e dn rs) rs.length (if dn then -(rs.length:Int) else rs.length):=by
 refine ⟨fun u hu=>?_,fun u hu v hv=>?_,fun u hu=>?_⟩
 ·obtain ⟨j,hj,rfl⟩:=wB.mp hu
  have hj:=mem_range.mp hj
  obtain ⟨T,o,q1,q2,q3⟩:=h j rs[j] (qT hj)
  have g:rs.getD j (Value.none,[])=rs[j]:=by simp [qR,hj]
  refine ⟨T,o,j,by rw [g,q1],rfl,rfl,hj,mem_flatMap.mpr ⟨rs[j],wK hj,by rw [q2];exact .head _⟩,?_⟩
  rw [g,q1];exact q3
 ·obtain ⟨j,hj,rfl⟩:=wB.mp hu
  obtain ⟨j',hj',rfl⟩:=wB.mp hv
  cases dn<;>simp [pl]
 ·obtain ⟨j,hj,rfl⟩:=wB.mp hu
  have hj:=mem_range.mp hj
  cases dn<;>simp<;>lia
end
section
variable {A:Around} {E:VS} {s:Shared}
theorem yQT {x y:Value} {Q:VS} (h:wpAny (model prog w) A.in1 (pyIter x) (fun v s'=>Q v s') E s):wpAny (model prog w) A (call (.builtin "iter") [x]) Q E s:=by
 refine call_function_entry (by decide +kernel) (by decide +kernel) kdk_entry_iter (kdk_args_iter _) ?_
 unfold Builtin.«iter»
 refine qA (m:=someArgs "iter" 1 2 _) (wN (a:=[x]) (by first | rfl | kernel_rfl!) ?_)
 show wpAny _ _ (pyIter x >>= _) _ _ _
 exact qA (qL h (fun v s' hv=>qI ⟨_,rfl,hv⟩) fun _ _ e=>e)
noncomputable def liObj (l:Addr) (i:Nat):Obj:={ cls:=.type "list_iterator",data:=.fields #[.ref l,.int i 0] }
theorem li_is {h:Heap} {it l:Addr} {i:Nat} (e:h.get? it=some (liObj l i)):h.IsListIter it l i:=⟨_,e,rfl,rfl⟩
theorem yQE {l:Addr} {items:Array Value} {c:Nat} {Q:VS} (hl:s.heap.get? l=some (listOf items c)) (h:Q (.ref s.heap.objs.size) {s with heap:=s.heap.push (liObj l 0)}):
  wpAny (model prog w) A (call (.builtin "iter") [.ref l]) Q E s:=yQT (y:=.none) (wpAny_pyIter_list (qW hl) h)
theorem yWA {it l:Addr} {i:Nat} {Q:VS} (hl:s.heap.get? it=some (liObj l i)) (h:Q (.ref it) s):
  wpAny (model prog w) A (call (.builtin "iter") [.ref it]) Q E s:=yQT (y:=.none) (wpAny_pyIter_listiter (li_is hl) h)
end
section
variable {A:Around} {s:Shared} {b B h:Heap} {E:VS}
theorem yAl:typeLookup (.type "list_iterator") (Str.ofString "__len__")=pure none:=by rw [typeLookup_type,builtinLookup_eq_fast];kernel_rfl
theorem yXb {it l:Addr} {i:Nat} {Q:VS} (hl:s.heap.get? it=some (liObj l i)) (hh:A.handled=none)
  (h:∀ h' tk e,Heap.NewExc s.heap h' e "TypeError"->E (.ref e) {s with heap:=h',toks:=tk}):wpAny (model prog w) A (call (.builtin "len") [.ref it]) Q E s:=by
 refine Calls.call_function_entry kind_len plain_len entry_len (args_len1 _) ?_
 unfold Builtin.«len»
 refine qA (m:=oneArg "len" _) (qI ?_)
 refine qA (m:=callSpecial? _ (Str.ofString "__len__")) (wpAny_callSpecial?_none (name:=Str.ofString "__len__") (T:="list_iterator") ⟨_,hl,rfl⟩ yAl ?_)
 dsimp only
 refine qA (vI (qA (wpAny_typeNameOf' (T:="list_iterator") ⟨_,hl,rfl⟩ (by decide) ?_)))
 have e:shownName "list_iterator"="list_iterator":=by unfold shownName;rw [find?_eq_fast];kernel_rfl
 rw [e]
 exact wpAny_raiseTypeError hh h
theorem yCC {env:Env} {outer:List Env} {L e:Addr} {K:Unit->Shared->Prop} (hfr:A.frames=some (env::outer)) (hf:env.frame=some L) (hl:h.FunFrames B (env::outer)) (st:B.StaysIn h)
  (hx:Heap.NewExc h s.heap e "TypeError")
  (k:∀ h' a0,B.get? e=none->B.StaysIn h'->h'.FunFrames B (env::outer)->h'.TracedW B e (.type "TypeError") a0->h.UpToSlots h'->K () {s with heap:=h'}):
  wpAny (model prog w) A (noteFrame (.ref e) env) (fun _ sa2=>wpAny (model prog w) A (setFlight (.ref e) none) K E sa2) E s:=by
 obtain ⟨ob,t,he,hc,hd⟩:=hx.there
 have fresh:B.get? e=none:=by
  cases hq:B.get? e with
  | none=>rfl
  | some o'=>have:=st e o' hq;rw [hx.new] at this;cases this
 unfold noteFrame
 simp only [hf]
 refine qA (vT he hd (x:=.none) rfl ?_)
 rw [qM (by decide)]
 refine wpAny_entryW hfr (hl.of_keeps fun b o hb _=>⟨o,hx.keeps b o hb,rfl⟩) hf he (fun b o hb=>hx.keeps b o (st b o hb)) fresh hd (by simp) (a0:=t) rfl fun ha1 N1=>?_
 obtain ⟨n1,n2,n3,n4⟩:=N1
 refine wpAny_setFlight_noneW n1 n2 n3 fun ha2 m1 m2 m3 m4=>?_
 rw [hc] at m3
 exact k ha2 t fresh m1 m2 m3 (((Heap.UpToSlots.of_keeps hx.keeps).trans n4).trans fun b o hb hn=>⟨o.slots,m4 b o hb hn⟩)
theorem hide_frames {outer:List Env} {S:List Addr} (hl:h.FunFrames b outer) (hS:∀ env∈outer,∀ a,env.frame=some a->a∈S):h.FunFrames (hideAll h S) outer:=by
 induction outer with
 | nil=>trivial
 | cons env r ih=>
  obtain ⟨h1,⟨L,o,h2,h3,h4,h5⟩,h6⟩:=hl
  exact ⟨h1,⟨L,o,h2,vK _ (hS _ (.head _) _ h2),h4,h5⟩,ih h6 fun e he a ha=>hS e (.tail _ he) a ha⟩
noncomputable def cut (h:Heap) (n:Nat) (S:List Addr):Heap:=hideAll ⟨h.objs.extract 0 n,h.life⟩ S
theorem yJq {n:Nat} {S:List Addr}:(cut h n S).objs.size<=n:=by
 unfold cut;rw [hideAll_size];simp;exact (jg2 [_,_] 0xf01f1ab0 (min_le_left _ _))
theorem extract_get {n a:Nat} (ha:a < n):(Heap.get? ⟨h.objs.extract 0 n,h.life⟩ a)=h.get? a:=by
 unfold Heap.get?
 have:(h.objs.extract 0 n)[a]?=h.objs[a]?:=by
  rw [Array.getElem?_extract];simp;intro q;exact (ng fun z=>nq3 [_,_,_] 0xf21f02f1ab0 ha q (qD (min_eq_left (ng fun z2=>nq3 [_,_,_] 0xf21f02f1ab0 z q (qD (min_eq_right (ng fun z1=>nq2 [_,_] 0xf0ab1f1ab0 z2 z1)).symm))).symm))
 simp only [this]
theorem cut_get {n a:Nat} {S:List Addr} {o:Obj} (ha:a < n) (hS:a ∉ S) (e:h.get? a=some o):(cut h n S).get? a=some o:=
 vJ _ ((extract_get ha).trans e) hS
theorem yQS {n:Nat} {S:List Addr}:(cut h n S).StaysIn h:=fun a o e=>by
 have e':=vL _ e
 have ha:a < n:=by
  have q:a < (h.objs.extract 0 n).size:=qU e'
  rw [Array.size_extract] at q
  exact qP q (jg3 [_,_,_] 0xf02f21f1ab0 (vD _ _) (min_le_left _ _))
 rwa [extract_get ha] at e'
theorem yJr {n:Nat} {S:List Addr} {a:Addr} (ha:a∈S):(cut h n S).get? a=none:=vK _ ha
theorem yVJ {n:Nat} {S:List Addr} {a:Addr} (ha:n<=a):(cut h n S).get? a=none:=by
 cases q:(cut h n S).get? a with
 | none=>rfl
 | some o=>exact absurd (qP (qU q) yJq) (vX.mpr ha)
end
section
variable {A:Around} {s:Shared} {E:VS}
noncomputable def rgObj (T:String) (x left step:Int):Obj:={ cls:=.type T,data:=.fields #[rawInt x,rawInt left,rawInt step] }
noncomputable def liEnd (i:Nat):Obj:={ cls:=.type "list_iterator",data:=.fields #[.none,.int i 0] }
noncomputable def zipObj (TI TO:Addr) (f0:Value):Obj:={ cls:=.type "zip",data:=.fields #[f0,.bool false,.bool false,.ref TI,.ref TO] }
noncomputable def pairObj (x y:Value):Obj:={ cls:=.type "tuple",data:=.seq #[x,y] }
theorem stop_raised {α:Type} {Q:α->Shared->Prop} (hh:A.handled=none) (hE:∀ h' e,s.heap.StaysIn h'->s.heap.get? e=none->(∃ o,h'.get? e=some o/\o.cls=.type "StopIteration")->E (.ref e) {s with heap:=h'}):
  wpAny (model prog w) A (Builtin.SmallTypes.stopIteration:Sem α) Q E s:=by
 unfold Builtin.SmallTypes.stopIteration
 refine qA ?_
 simp only [newExc,newTuple]
 refine qA (wpAny_newObj_type ?_ (by size_fits))
 refine qA (m:=firstArgMember _ _) (wN (a:=Value.none) (by first | rfl | (simp only [firstArgMember];rfl)) ?_)
 refine wpAny_newObj_type ?_ (by size_fits)
 simp only [raiseNew]
 refine qA (wpAny_handled ?_)
 rw [hh]
 first | refine wpAny_throw ?_ | refine qA (qI (wpAny_throw ?_))
 exact hE _ _ (fun b o e=>qS _ (qS _ e)) (qV (by simp [Heap.size_push])) ⟨_,qX _ rfl,rfl⟩
theorem stop_new {Q:VS} (hQ:∀ h' e,s.heap.StaysIn h'->s.heap.get? e=none->(∃ o,h'.get? e=some o/\o.cls=.type "StopIteration")->Q (.ref e) {s with heap:=h'}):
  wpAny (model prog w) A (newExc (.type "StopIteration") []) Q E s:=by
 simp only [newExc,newTuple]
 refine qA (wpAny_newObj_type ?_ (by size_fits))
 refine qA (m:=firstArgMember _ _) (wN (a:=Value.none) (by first | rfl | (simp only [firstArgMember];rfl)) ?_)
 refine wpAny_newObj_type ?_ (by size_fits)
 exact hQ _ _ (fun b o e=>qS _ (qS _ e)) (qV (by simp [Heap.size_push])) ⟨_,qX _ rfl,rfl⟩
theorem li_next_item {it l:Addr} {i c:Nat} {items:Array Value} {x:Value} {Q:PySem.Fin->Shared->Prop} (hit:s.heap.get? it=some (liObj l i)) (hl:s.heap.get? l=some (listOf items c)) (hx:items[i]?=some x)
  (hQ:∀ h',h'.get? it=some (liObj l (i+1))->Heap.SameBut it s.heap h'->Q (.done (.ret x)) {s with heap:=h'}):
  wpAny (model prog w) A (Builtin.«list_iterator.__next__» ⟨[.ref it],[]⟩) Q E s:=by
 show wpAny _ _ (field (.ref it) 0 >>= _) _ _ s
 refine qA (vT hit rfl (x:=.ref l) rfl ?_)
 show wpAny _ _ (if (Value.ref l == Value.none)=true then _ else _) _ _ s
 rw [qM (show ¬ ((Value.ref l == Value.none)=true) from Bool.false_ne_true)]
 show wpAny _ _ (field (.ref it) 1 >>= _) _ _ s
 refine qA (vT hit rfl (x:=.int i 0) rfl ?_)
 show wpAny _ _ (seqItems? (.ref l) >>= _) _ _ s
 refine qA (wpAny_seqItems hl rfl ?_)
 simp only [toNat_natCast,hx]
 refine qA (wpAny_setField hit rfl (by simp) (qI (hQ _ ?_ (wC ..))))
 rw [Heap.get?_update_self _ hit (Obj.isFreed_of_fields (Obj.data_mapFields rfl _))]
 simp [liObj,Obj.mapFields,rawInt]
theorem li_next_end {it l:Addr} {i c:Nat} {items:Array Value} {Q:PySem.Fin->Shared->Prop} (hh:A.handled=none) (hit:s.heap.get? it=some (liObj l i)) (hl:s.heap.get? l=some (listOf items c)) (hx:items[i]?=none)
  (hE:∀ h' e,h'.get? it=some (liEnd i)->Heap.ExtBut it s.heap h'->s.heap.get? e=none->(∃ o,h'.get? e=some o/\o.cls=.type "StopIteration")->E (.ref e) {s with heap:=h'}):
  wpAny (model prog w) A (Builtin.«list_iterator.__next__» ⟨[.ref it],[]⟩) Q E s:=by
 show wpAny _ _ (field (.ref it) 0 >>= _) _ _ s
 refine qA (vT hit rfl (x:=.ref l) rfl ?_)
 show wpAny _ _ (if (Value.ref l == Value.none)=true then _ else _) _ _ s
 rw [qM (show ¬ ((Value.ref l == Value.none)=true) from Bool.false_ne_true)]
 show wpAny _ _ (field (.ref it) 1 >>= _) _ _ s
 refine qA (vT hit rfl (x:=.int i 0) rfl ?_)
 show wpAny _ _ (seqItems? (.ref l) >>= _) _ _ s
 refine qA (wpAny_seqItems hl rfl ?_)
 simp only [toNat_natCast,hx]
 refine qA (vI (qA (wpAny_setField hit rfl (by simp) ?_)))
 have e1:(s.heap.update it (Obj.mapFields (·.setIfInBounds 0 Value.none))).get? it=some (liEnd i):=by
  rw [Heap.get?_update_self _ hit (Obj.isFreed_of_fields (Obj.data_mapFields rfl _))]
  simp [liObj,liEnd,Obj.mapFields]
 refine stop_raised hh fun h' e st hn he=>hE h' e (st _ _ e1) (fun c o hc x=>st _ _ ((wC ..).extBut c o hc x)) ?_ he
 cases q:s.heap.get? e with
 | none=>rfl
 | some o=>
  exfalso
  by_cases hc:e=it
  ·subst hc;dsimp only at hn;rw [e1] at hn;cases hn
  ·have:=(wC s.heap it (Obj.mapFields (·.setIfInBounds 0 Value.none))).extBut e o hc q
   dsimp only at hn;rw [this] at hn;cases hn
theorem li_next_gone {it:Addr} {i:Nat} {Q:PySem.Fin->Shared->Prop} (hh:A.handled=none) (hit:s.heap.get? it=some (liEnd i))
  (hE:∀ h' e,s.heap.StaysIn h'->s.heap.get? e=none->(∃ o,h'.get? e=some o/\o.cls=.type "StopIteration")->E (.ref e) {s with heap:=h'}):
  wpAny (model prog w) A (Builtin.«list_iterator.__next__» ⟨[.ref it],[]⟩) Q E s:=by
 show wpAny _ _ (field (.ref it) 0 >>= _) _ _ s
 refine qA (vT hit rfl (x:=.none) rfl ?_)
 show wpAny _ _ (if (Value.none == Value.none)=true then _ else _) _ _ s
 rw [qN (show ((Value.none == Value.none)=true) from rfl)]
 refine qA (vI ?_)
 first | exact stop_raised hh hE | exact qA (stop_raised hh hE)
theorem rg_next_item {it:Addr} {x left step:Int} {Q:PySem.Fin->Shared->Prop} (hit:s.heap.get? it=some (rgObj "range_iterator" x left step)) (hleft:0 < left)
  (hQ:∀ h',h'.get? it=some (rgObj "range_iterator" (x+step) (left - 1) step)->Heap.SameBut it s.heap h'->Q (.done (.ret (.int x s.toks))) {s with heap:=h',toks:=s.toks+1}):
  wpAny (model prog w) A (Builtin.«range_iterator.__next__» ⟨[.ref it],[]⟩) Q E s:=by
 show wpAny _ _ (field (.ref it) 0 >>= _) _ _ s
 refine qA (vT hit rfl (x:=rawInt x) rfl ?_)
 show wpAny _ _ (field (.ref it) 1 >>= _) _ _ s
 refine qA (vT hit rfl (x:=rawInt left) rfl ?_)
 show wpAny _ _ (field (.ref it) 2 >>= _) _ _ s
 refine qA (vT hit rfl (x:=rawInt step) rfl ?_)
 show wpAny _ _ (if left<=0 then _ else _) _ _ s
 rw [qM (Int.not_le.mpr hleft)]
 refine qA (wpAny_setField hit rfl (by simp) ?_)
 have e1:=Heap.get?_update_self (Obj.mapFields (·.setIfInBounds 0 (rawInt (x+step)))) hit rfl
 refine qA (wpAny_setField e1 (Obj.data_mapFields rfl _) (by simp) ?_)
 refine qA (wpAny_mkInt (qI (hQ _ ?_ ((wC ..).trans (wC ..)))))
 exact Heap.get?_update_self _ e1 rfl
theorem rg_next_end {it:Addr} {x left step:Int} {Q:PySem.Fin->Shared->Prop} (hh:A.handled=none) (hit:s.heap.get? it=some (rgObj "range_iterator" x left step)) (hleft:left<=0)
  (hE:∀ h' e,s.heap.StaysIn h'->s.heap.get? e=none->(∃ o,h'.get? e=some o/\o.cls=.type "StopIteration")->E (.ref e) {s with heap:=h'}):
  wpAny (model prog w) A (Builtin.«range_iterator.__next__» ⟨[.ref it],[]⟩) Q E s:=by
 show wpAny _ _ (field (.ref it) 0 >>= _) _ _ s
 refine qA (vT hit rfl (x:=rawInt x) rfl ?_)
 show wpAny _ _ (field (.ref it) 1 >>= _) _ _ s
 refine qA (vT hit rfl (x:=rawInt left) rfl ?_)
 show wpAny _ _ (field (.ref it) 2 >>= _) _ _ s
 refine qA (vT hit rfl (x:=rawInt step) rfl ?_)
 show wpAny _ _ (if left<=0 then _ else _) _ _ s
 rw [qN hleft]
 refine qA (vI ?_)
 first | exact stop_raised hh hE | exact qA (stop_raised hh hE)
theorem lg_next_item {it:Addr} {x left step:Int} {Q:PySem.Fin->Shared->Prop} (hit:s.heap.get? it=some (rgObj "longrange_iterator" x left step)) (hleft:0 < left)
  (hQ:∀ h',h'.get? it=some (rgObj "longrange_iterator" (x+step) (left - 1) step)->Heap.SameBut it s.heap h'->Q (.done (.ret (.int x s.toks))) {s with heap:=h',toks:=s.toks+1}):
  wpAny (model prog w) A (Builtin.«longrange_iterator.__next__» ⟨[.ref it],[]⟩) Q E s:=by
 show wpAny _ _ (bound "longrange_iterator.__next__" ⟨[.ref it],[]⟩ >>= _) _ _ s
 rw [bound_longnext]
 refine qA (qI ?_)
 show wpAny _ _ (Builtin.Iterators_pickling.intField _ (.ref it) 0 >>= _) _ _ s
 refine qA (wpAny_intField hit rfl rfl ?_)
 show wpAny _ _ (Builtin.Iterators_pickling.intField _ (.ref it) 1 >>= _) _ _ s
 refine qA (wpAny_intField hit rfl rfl ?_)
 show wpAny _ _ (Builtin.Iterators_pickling.intField _ (.ref it) 2 >>= _) _ _ s
 refine qA (wpAny_intField hit rfl rfl ?_)
 show wpAny _ _ (if left<=0 then _ else _) _ _ s
 rw [qM (Int.not_le.mpr hleft)]
 refine qA (wpAny_setField hit rfl (by simp) ?_)
 have e1:=Heap.get?_update_self (Obj.mapFields (·.setIfInBounds 0 (rawInt (x+step)))) hit rfl
 refine qA (wpAny_setField e1 (Obj.data_mapFields rfl _) (by simp) ?_)
 refine qA (wpAny_mkInt (qI (hQ _ ?_ ((wC ..).trans (wC ..)))))
 exact Heap.get?_update_self _ e1 rfl
theorem lg_next_end {it:Addr} {x left step:Int} {Q:PySem.Fin->Shared->Prop} (hh:A.handled=none) (hit:s.heap.get? it=some (rgObj "longrange_iterator" x left step)) (hleft:left<=0)
  (hE:∀ h' e,s.heap.StaysIn h'->s.heap.get? e=none->(∃ o,h'.get? e=some o/\o.cls=.type "StopIteration")->E (.ref e) {s with heap:=h'}):
  wpAny (model prog w) A (Builtin.«longrange_iterator.__next__» ⟨[.ref it],[]⟩) Q E s:=by
 show wpAny _ _ (bound "longrange_iterator.__next__" ⟨[.ref it],[]⟩ >>= _) _ _ s
 rw [bound_longnext]
 refine qA (qI ?_)
 show wpAny _ _ (Builtin.Iterators_pickling.intField _ (.ref it) 0 >>= _) _ _ s
 refine qA (wpAny_intField hit rfl rfl ?_)
 show wpAny _ _ (Builtin.Iterators_pickling.intField _ (.ref it) 1 >>= _) _ _ s
 refine qA (wpAny_intField hit rfl rfl ?_)
 show wpAny _ _ (Builtin.Iterators_pickling.intField _ (.ref it) 2 >>= _) _ _ s
 refine qA (wpAny_intField hit rfl rfl ?_)
 show wpAny _ _ (if left<=0 then _ else _) _ _ s
 rw [qN hleft]
 refine qA (vI ?_)
 refine qA (stop_new fun h' e st hn he=>?_)
 first | exact wpAny_raiseNew_none hh (hE h' e st hn he) | exact qA (wpAny_raiseNew_none hh (hE h' e st hn he))
def RgT (T:String):Prop:=T="range_iterator"\/T="longrange_iterator"
theorem nextOf_rg_item {T:String} {it:Addr} {x left step:Int} {Q:VS} (hT:RgT T) (hit:s.heap.get? it=some (rgObj T x left step)) (hleft:0 < left)
  (hQ:∀ h',h'.get? it=some (rgObj T (x+step) (left - 1) step)->Heap.SameBut it s.heap h'->Q (.int x s.toks) {s with heap:=h',toks:=s.toks+1}):
  wpAny (model prog w) A (Builtin.SmallTypes.nextOf (.ref it)) Q E s:=by
 unfold Builtin.SmallTypes.nextOf
 rcases hT with rfl | rfl
 ·have ht:s.TypeIs (.ref it) "range_iterator":=⟨_,hit,rfl⟩
  exact qA (wpAny_callSpecial?_slot (name:=Str.ofString "__next__") ht F.slot_range_iterator_next (vU F.slot_range_iterator_next ht F.entry_range_iterator_next
   (rg_next_item hit hleft fun h' a b=>⟨_,rfl,qI (hQ h' a b)⟩) (F.args_range_iterator_next_1 _)))
 ·have ht:s.TypeIs (.ref it) "longrange_iterator":=⟨_,hit,rfl⟩
  exact qA (wpAny_callSpecial?_slot (name:=Str.ofString "__next__") ht F.slot_longrange_iterator_next (vU F.slot_longrange_iterator_next ht F.entry_longrange_iterator_next
   (lg_next_item hit hleft fun h' a b=>⟨_,rfl,qI (hQ h' a b)⟩) (F.args_longrange_iterator_next_1 _)))
theorem nextOf_rg_end {T:String} {it:Addr} {x left step:Int} {Q:VS} (hT:RgT T) (hh:A.handled=none) (hit:s.heap.get? it=some (rgObj T x left step)) (hleft:left<=0)
  (hE:∀ h' e,s.heap.StaysIn h'->s.heap.get? e=none->(∃ o,h'.get? e=some o/\o.cls=.type "StopIteration")->E (.ref e) {s with heap:=h'}):
  wpAny (model prog w) A (Builtin.SmallTypes.nextOf (.ref it)) Q E s:=by
 unfold Builtin.SmallTypes.nextOf
 rcases hT with rfl | rfl
 ·have ht:s.TypeIs (.ref it) "range_iterator":=⟨_,hit,rfl⟩
  exact qA (wpAny_callSpecial?_slot (name:=Str.ofString "__next__") ht F.slot_range_iterator_next (vU F.slot_range_iterator_next ht F.entry_range_iterator_next
   (rg_next_end hh hit hleft hE) (F.args_range_iterator_next_1 _)))
 ·have ht:s.TypeIs (.ref it) "longrange_iterator":=⟨_,hit,rfl⟩
  exact qA (wpAny_callSpecial?_slot (name:=Str.ofString "__next__") ht F.slot_longrange_iterator_next (vU F.slot_longrange_iterator_next ht F.entry_longrange_iterator_next
   (lg_next_end hh hit hleft hE) (F.args_longrange_iterator_next_1 _)))
theorem pyNext_li_item {it l:Addr} {i c:Nat} {items:Array Value} {x:Value} {Q:Option Value->Shared->Prop} (hit:s.heap.get? it=some (liObj l i)) (hl:s.heap.get? l=some (listOf items c)) (hx:items[i]?=some x)
  (hQ:∀ h',h'.get? it=some (liObj l (i+1))->Heap.SameBut it s.heap h'->Q (some x) {s with heap:=h'}):wpAny (model prog w) A (pyNext (.ref it)) Q E s:=by
 unfold pyNext
 have ht:s.TypeIs (.ref it) "list_iterator":=⟨_,hit,rfl⟩
 exact qA (wpAny_attempt (wpAny_callSpecial?_slot (name:=Str.ofString "__next__") ht slot_listiter_next (vU slot_listiter_next ht entry_listiter_next
   (li_next_item hit hl hx fun h' a b=>⟨_,rfl,qI (hQ h' a b)⟩) (args_listiter_next _))))
theorem pyNext_li_end {it l:Addr} {i c:Nat} {items:Array Value} {Q:Option Value->Shared->Prop} (hh:A.handled=none) (hit:s.heap.get? it=some (liObj l i)) (hl:s.heap.get? l=some (listOf items c)) (hx:items[i]?=none)
  (hQ:∀ h',h'.get? it=some (liEnd i)->Heap.ExtBut it s.heap h'->Q none {s with heap:=h'}):wpAny (model prog w) A (pyNext (.ref it)) Q E s:=by
 unfold pyNext
 have ht:s.TypeIs (.ref it) "list_iterator":=⟨_,hit,rfl⟩
 refine qA (wpAny_attempt (wpAny_callSpecial?_slot (name:=Str.ofString "__next__") ht slot_listiter_next (vU slot_listiter_next ht entry_listiter_next
   (li_next_end hh hit hl hx fun h' e a b _ he=>?_) (args_listiter_next _))))
 obtain ⟨o,ho,hc⟩:=he
 refine qA (wpAny_isInstance (T:="StopIteration") (b:=true) ⟨o,ho,hc⟩ isSubtype_stop ?_)
 exact qI (hQ _ a b)
theorem yVh {it:Addr} {i:Nat} {Q:Option Value->Shared->Prop} (hh:A.handled=none) (hit:s.heap.get? it=some (liEnd i))
  (hQ:∀ h',s.heap.StaysIn h'->Q none {s with heap:=h'}):wpAny (model prog w) A (pyNext (.ref it)) Q E s:=by
 unfold pyNext
 have ht:s.TypeIs (.ref it) "list_iterator":=⟨_,hit,rfl⟩
 refine qA (wpAny_attempt (wpAny_callSpecial?_slot (name:=Str.ofString "__next__") ht slot_listiter_next (vU slot_listiter_next ht entry_listiter_next
   (li_next_gone hh hit fun h' e a _ he=>?_) (args_listiter_next _))))
 obtain ⟨o,ho,hc⟩:=he
 refine qA (wpAny_isInstance (T:="StopIteration") (b:=true) ⟨o,ho,hc⟩ isSubtype_stop ?_)
 exact qI (hQ _ a)
end
section
variable {A:Around} {s:Shared} {E:VS}
structure yQO (z TI TO i1 i2:Addr):Prop where
 TIz:TI≠z
 TOz:TO≠z
 i1z:i1≠z
 i2z:i2≠z
 TITO:TI≠TO
 TIi1:TI≠i1
 TIi2:TI≠i2
 TOi1:TO≠i1
 TOi2:TO≠i2
 i12:i1≠i2
end
section
variable {A:Around} {s:Shared} {E:VS}
theorem yAQ {elts:List Expr} {x1} {pos:Pos} {z TI TO T:Addr} {Q:Unit->Shared->Prop} (hz:s.heap.get? z=some (zipObj TI TO (rawInt T)))
  (hQ:∀ h',h'.get? z=some (zipObj TI TO .none)->Heap.SameBut z s.heap h'->Q () {s with heap:=h'}):
  wpAny (model prog w) A (letOwnedTupleGo (.Tuple elts x1 pos) (.ref z) (.ref T)) Q E s:=wpAny_letOwnedTupleGo_zip hz hQ
noncomputable def rgT (a b c:Int):String:=if Builtin.Range.small a b c then "range_iterator" else "longrange_iterator"
theorem yYA {a b c:Int}:RgT (rgT a b c):=by unfold rgT RgT;split<;>simp
theorem yJW {prog:Program} {w:World} {r:Addr} {a b c:Int} {t u v:Tok} {Q:VS} (hr:IsRange s.heap r a b c t u v)
  (hQ:Q (.ref s.heap.objs.size) {s with heap:=s.heap.push (rgObj (rgT a b c) a (Builtin.Range.rangeSize a b c) c)}):wpAny (model prog w) A (pyIter (.ref r)) Q E s:=by
 cases hb:Builtin.Range.small a b c with
 | false=>exact wpAny_pyIter_longrange hr hb (by simpa [rgT,hb,rgObj] using hQ)
 | true=>exact wpAny_pyIter_range hr hb (by simpa [rgT,hb,rgObj] using hQ)
noncomputable abbrev zr1 (h:Heap) (a b c:Int):Heap:=h.push (rgObj (rgT a b c) a (Builtin.Range.rangeSize a b c) c)
noncomputable abbrev zr2 (h:Heap) (a b c:Int) (IT:Addr):Heap:=(zr1 h a b c).push (pairObj (.ref h.objs.size) (.ref IT))
noncomputable abbrev zr3 (h:Heap) (a b c:Int) (IT:Addr):Heap:=(zr2 h a b c IT).push (pairObj .none .none)
noncomputable abbrev zr4 (h:Heap) (a b c:Int) (IT:Addr):Heap:=(zr3 h a b c IT).push (zipObj (zr1 h a b c).objs.size (zr2 h a b c IT).objs.size .none)
theorem yQV {z TI TO:Addr} {f0:Value} {Q:VS} (hz:s.heap.get? z=some (zipObj TI TO f0)) (h:Q (.ref z) s):wpAny (model prog w) A (pyIter (.ref z)) Q E s:=wpAny_pyIter_zip hz h
end
theorem yYK:mroOf (.type "object")=pure [.type "object"]:=by kernel_rfl
theorem yXO:typeLookup (.type "object") "__new__"=pure (some (.builtin "object.__new__")):=by rw [typeLookup_type,builtinLookup_eq_fast];kernel_rfl
theorem yXX:TypeCalled "object" "object.__new__" "object.__init__":=
 ⟨by decide +kernel,by decide +kernel,⟨_,_,yYK⟩,madeBy_type yYK yXO (by decide +kernel),by decide +kernel,by rw [isSubtype_type];kernel_rfl,F.slot_object_init⟩
theorem yWf:Bind.madeHere "object.__new__" (.type "object")=pure ():=by kernel_rfl
section
variable {A:Around} {E:VS} {s:Shared}
theorem yWY {Q:VS} (h:Q (.ref s.heap.objs.size) { s with heap:=s.heap.push { cls:=.type "object" } }):
  wpAny (model prog w) A (call (.type "object") []) Q E s:=by
 refine callType_codes (Q₁:=fun obj sa1=>obj=.ref s.heap.objs.size/\sa1={ s with heap:=s.heap.push { cls:=.type "object" } }) yXX (by kernel_rfl) F.entry_object_init ?_ ?_
 ·refine codeAny_call_builtin (by decide +kernel) F.entry_object_new (wN (a:=()) (by kernel_rfl) ?_)
  unfold Builtin.«object.__new__»
  refine qA (wN (a:=true) (by rfl) ?_)
  simp only [Bool.not_true,wH,if_false]
  have e1:((Manifest.find? "object").elim false fun x=>x.mro.any fun t=>(Manifest.find? t).elim false fun x=>x.noNew)=false:=by decide +kernel
  simp only [e1,wH,if_false,pure_bind]
  refine qA (wN yWf ?_)
  simp only [List.isEmpty_nil,Bool.not_true,Bool.or_self,wH,if_false,pure_bind]
  have e2:typeHasDict (.type "object")=false:=by decide +kernel
  simp only [e2,wH,if_false,pure_bind]
  refine qA (wpAny_newObj_type ?_)
  have e3:diesByItsTypesDel "object"=false:=by decide +kernel
  simp only [e3,wH,if_false,pure_bind]
  exact qI ⟨rfl,rfl⟩
 ·rintro obj sa1 ⟨rfl,rfl⟩
  refine ⟨⟨_,qX _ rfl,rfl⟩,F.args_object_init_1 _,?_⟩
  unfold Builtin.«object.__init__»
  exact qI ⟨rfl,h⟩
end
namespace K_comp_loop
def zP (A:Around) (s:Shared) (elt target iter:Expr) (ifs:List Expr) (scope:Scope) (pos:Pos) (it acc:Value) (env:Env) (R:Result->Shared->Prop) (I:Nat->Shared->Prop) (n:Nat):Prop:=∀ (turn:∀ n s,I n s->wpAny (model prog w) A (pyNext it) (fun r sa1=>match r with
   | none=>R (.ok .next) sa1
   | some v=>wpAny (model prog w) A (letOwnedTupleGo target it v) (fun _ sa1'=>wpAny (model prog w) A (assign target env v) (fun _ sa2=>
     wpAny (model prog w) A (forIn ifs true fun c r=>if r=true then do let ok <- isTrue c env (eval c env);pure (ForInStep.yield ok) else pure (ForInStep.yield r)) (fun ok sa3=>
      if ok=true then wpAny (model prog w) A (eval elt env) (fun x sa4=>
       wpAny (model prog w) A (call (.builtin "list.append") [acc,x]) (fun _ s5=>∃ m,m < n/\I m s5) (notedBy (model prog w) A env fun e s'=>R (.error e) s') sa4) (notedBy (model prog w) A env fun e s'=>R (.error e) s') sa3
      else ∃ m,m < n/\I m sa3) (notedBy (model prog w) A env fun e s'=>R (.error e) s') sa2) (notedBy (model prog w) A env fun e s'=>R (.error e) s') sa1') (notedBy (model prog w) A env fun e s'=>R (.error e) s') sa1) (notedBy (model prog w) A env fun e s'=>R (.error e) s') s) (h:I n s),
  codeAny (model prog w) A (.compLoop (.ListComp elt [⟨target,iter,ifs,0⟩] scope pos) 0 it acc env) R s
def zc:=ep (U14 zP) ⟨({},(start default).1,default,default,default,[],default,default,.none,.none,default,fun O O=>True,fun O O=>True,0)⟩
def zd1:=zc.2.2.2.2.2.2.2.2
def A:=zc.1
def s:=zc.2.1
def elt:=zc.2.2.1
def target:=zc.2.2.2.1
def iter:=zc.2.2.2.2.1
def ifs:=zc.2.2.2.2.2.1
def scope:=zc.2.2.2.2.2.2.1
def pos:=zc.2.2.2.2.2.2.2.1
def it:=zd1.1
def acc:=zd1.2.1
def env:=zd1.2.2.1
def I:=zd1.2.2.2.2.1
def n:=zd1.2.2.2.2.2
theorem zh:zP A s elt target iter ifs scope pos it acc env zd1.2.2.2.1 I n:=by
 intro turn h
 refine codeAny_loop rfl I (fun n s hI=>?_) n h
 show wpAny _ A ((compTurn (.ListComp elt [⟨target,iter,ifs,0⟩] scope pos) 0 it acc env).onRaise (fun x=>do noteFrame x env;theTreesLotGoes x)) _ _ s
 refine wpAny_noted ?_
 rw [compTurn_list]
 refine qA (wpAny_standAt (qA (qL (turn n s hI) (fun r sa1 ha1=>?_) fun _ _ h'=>h')))
 cases r with
 | none=>exact qI ha1
 | some v=>
  refine qA (qL ha1 (fun _ sa1' ha1'=>?_) fun _ _ h'=>h')
  refine qA (qL ha1' (fun _ sa2 ha2=>qA (qL ha2 (fun ok sa3 hd3=>?_) fun _ _ h'=>h')) fun _ _ h'=>h')
  cases ok with
  | false=>exact qI ⟨rfl,hd3⟩
  | true=>
   exact qA (qA (qL hd3 (fun x sa4 ha4=>qA (qL ha4 (fun _ s5 ha5=>qI (qI ⟨rfl,ha5⟩)) fun _ _ h'=>h')) fun _ _ h'=>h'))
end K_comp_loop
section
variable {A:Around} {s:Shared} {E:VS}
theorem yWv {elt target iter:Expr} {ifs:List Expr} {scope:Scope} {pos:Pos} {it acc:Value} {env:Env} {R:Result->Shared->Prop} (I:Nat->Shared->Prop)
  (turn:∀ n s,I n s->wpAny (model prog w) A (pyNext it) (fun r sa1=>match r with
   | none=>R (.ok .next) sa1
   | some v=>wpAny (model prog w) A (letOwnedTupleGo target it v) (fun _ sa1'=>wpAny (model prog w) A (assign target env v) (fun _ sa2=>
     wpAny (model prog w) A (forIn ifs true fun c r=>if r=true then do let ok <- isTrue c env (eval c env);pure (ForInStep.yield ok) else pure (ForInStep.yield r)) (fun ok sa3=>
      if ok=true then wpAny (model prog w) A (eval elt env) (fun x sa4=>
       wpAny (model prog w) A (call (.builtin "list.append") [acc,x]) (fun _ s5=>∃ m,m < n/\I m s5) (notedBy (model prog w) A env fun e s'=>R (.error e) s') sa4) (notedBy (model prog w) A env fun e s'=>R (.error e) s') sa3
      else ∃ m,m < n/\I m sa3) (notedBy (model prog w) A env fun e s'=>R (.error e) s') sa2) (notedBy (model prog w) A env fun e s'=>R (.error e) s') sa1') (notedBy (model prog w) A env fun e s'=>R (.error e) s') sa1) (notedBy (model prog w) A env fun e s'=>R (.error e) s') s)
  (n:Nat) (h:I n s):codeAny (model prog w) A (.compLoop (.ListComp elt [⟨target,iter,ifs,0⟩] scope pos) 0 it acc env) R s:=
 eps (P:=U14 K_comp_loop.zP) K_comp_loop.zh (A,s,elt,target,iter,ifs,scope,pos,it,acc,env,R,I,n) turn h
theorem ns_at {h h':Heap} {a:Addr} {m:Str->Option Value} (hn:h.Ns a m) (e:∀ o,h.get? a=some o->h'.get? a=some o):h'.Ns a m:=
 let ⟨o,es,ep,x,r⟩:=hn;⟨o,es,ep,e _ x,r⟩
theorem yQk {h:Heap} {a:Addr} {m:Str->Option Value} (hn:h.Ns a m):∃ o,h.get? a=some o:=let ⟨o,_,_,x,_⟩:=hn;⟨o,x⟩
def yQN (wr:List Addr) (C D:Addr) (h h':Heap):Prop:=∀ c o,c ∉ wr->c≠C->c≠D->h.get? c=some o->h'.get? c=some o
theorem yQN.refl {wr:List Addr} {C D:Addr} {h:Heap}:yQN wr C D h h:=fun _ _ _ _ _ e=>e
theorem yQN.trans {wr:List Addr} {C D:Addr} {h h' h'':Heap} (x:yQN wr C D h h') (y:yQN wr C D h' h''):yQN wr C D h h'':=fun c o a b d e=>y c o a b d (x c o a b d e)
end
namespace K_comp_turns
def zP (A:Around) (s:Shared) (elt target iter:Expr) (ifs:List Expr) (scope:Scope) (pos:Pos) (it:Value) (C D:Addr) (cenv:Env) (R:Result->Shared->Prop) (n:Nat) (p:Nat->Bool) (wr:List Addr) (YP:Nat->Value->List (Addr×Obj)->Prop) (Dn:Heap->Prop) (ma0:Str->Option Value) (ca0:Nat):Prop:=∀ (St:Nat->Heap->Prop) (Nm:Nat->(Str->Option Value)->Prop) (hDC:D≠C) (hDw:D ∉ wr) (hCw:C ∉ wr) (hn:n<=1000) (alive:∀ j h,St j h->∀ a∈wr,∃ o,h.get? a=some o) (frame:∀ j h h',St j h->(∀ c o,c≠C->c≠D->h.get? c=some o->h'.get? c=some o)->St j h') (hturn:∀ j h ma2 tk E',j < n->St j h->h.Ns C ma2->yQN wr C D s.heap h->wpAny (model prog w) A (pyNext it) (fun r sa1=>∃ v,r=some v/\wpAny (model prog w) A (letOwnedTupleGo target it v) (fun _ sa2=>
   wpAny (model prog w) A (assign target cenv v) (fun _ sa3=>X3 fun hd3 tka3 ma3=>A5 (sa3={s with heap:=hd3,toks:=tka3}) (St (j+1) hd3) (hd3.Ns C ma3) (Nm j ma3) ((∀ c o,c ∉ wr->c≠C->h.get? c=some o->hd3.get? c=some o))) E' sa2) E' sa1) E' {s with heap:=h,toks:=tk}) (htest:∀ j h ma3 tk E',j < n->St (j+1) h->h.Ns C ma3->Nm j ma3->yQN wr C D s.heap h->
   wpAny (model prog w) A (forIn ifs true fun c r=>if r=true then do let ok <- isTrue c cenv (eval c cenv);pure (ForInStep.yield ok) else pure (ForInStep.yield r)) (fun ok s'=>ok=p j/\∃ h',∃ tk',s'={s with heap:=h',toks:=tk'}/\h.StaysIn h') E' {s with heap:=h,toks:=tk}) (helt:∀ j h ma3 tk E',j < n->p j=true->St (j+1) h->h.Ns C ma3->Nm j ma3->yQN wr C D s.heap h->
   wpAny (model prog w) A (eval elt cenv) (fun y s'=>X3 fun h' tk' nw=>A4 (s'={s with heap:=h',toks:=tk'}) (h.StaysIn h') (YP j y nw) (∀ q∈nw,h'.get? q.1=some q.2/\h.get? q.1=none)) E' {s with heap:=h,toks:=tk}) (hdone:∀ h tk (Q:Option Value->Shared->Prop) E',St n h->yQN wr C D s.heap h->(∀ h' tk',Dn h'->(∀ c o,c ∉ wr->h.get? c=some o->h'.get? c=some o)->Q none {s with heap:=h',toks:=tk'})->wpAny (model prog w) A (pyNext it) Q E' {s with heap:=h,toks:=tk}) (hst:St 0 s.heap) (hC:s.heap.Ns C ma0) (hD:s.heap.get? D=some (listOf #[] ca0)) (hR:∀ h' tk' ma2 (rs:List (Value×List (Addr×Obj))) c,rs.length=((List.range n).filter p).length->(∀ i r,rs[i]?=some r->YP (((List.range n).filter p).getD i 0) r.1 r.2)->
   (∀ r∈rs,∀ q∈r.2,h'.get? q.1=some q.2/\s.heap.get? q.1=none)->h'.Ns C ma2->h'.get? D=some (listOf (rs.map (·.1)).toArray c)->Dn h'->yQN wr C D s.heap h'->R (.ok .next) {s with heap:=h',toks:=tk'}),
  codeAny (model prog w) A (.compLoop (.ListComp elt [⟨target,iter,ifs,0⟩] scope pos) 0 it (.ref D) cenv) R s
def zc:=ep (U20 zP) ⟨({},(start default).1,default,default,default,[],default,default,.none,0,0,default,fun O O=>True,0,fun O=>true,[],fun O O O=>True,fun O=>True,fun O=>none,0)⟩
def zd1:=zc.2.2.2.2.2.2.2.2
def zd2:=zd1.2.2.2.2.2.2.2.2
def A:=zc.1
def s:=zc.2.1
def C:=zd1.2.1
def D:=zd1.2.2.1
def n:=zd1.2.2.2.2.2.1
def p:=zd1.2.2.2.2.2.2.1
def wr:=zd1.2.2.2.2.2.2.2.1
def YP:=zd2.1
def ma0:=zd2.2.2.1
def ca0:=zd2.2.2.2
theorem zh:zP A s zc.2.2.1 zc.2.2.2.1 zc.2.2.2.2.1 zc.2.2.2.2.2.1 zc.2.2.2.2.2.2.1 zc.2.2.2.2.2.2.2.1 zd1.1 C D zd1.2.2.2.1 zd1.2.2.2.2.1 n p wr YP zd2.2.1 ma0 ca0:=by
 intro St Nm hDC hDw hCw hn alive frame hturn htest helt hdone hst hC hD hR
 refine yWv (fun k s'=>X6 fun j h tk ma2 rs c=>A10 (k=n+1 - j) (j<=n) (s'={s with heap:=h,toks:=tk}) (St j h) (h.Ns C ma2) (h.get? D=some (listOf (rs.map Prod.fst).toArray c)) (yQN wr C D s.heap h) (rs.length=((List.range j).filter p).length) ((∀ i r,rs[i]?=some r->YP (((List.range j).filter p).getD i 0) r.1 r.2)) ((∀ r∈rs,∀ q∈r.2,h.get? q.1=some q.2/\s.heap.get? q.1=none))) ?_ (n+1)
  ⟨0,s.heap,s.toks,ma0,[],ca0,rfl,vZ _,rfl,hst,hC,hD,yQN.refl,rfl,fun i r e=>by simp at e,fun r hr=>by simp at hr⟩
 rintro k s' ⟨j,h,tk,ma2,rs,c,rfl,hj,rfl,hst',hC',hD',hK,hlen,hY,hN⟩
 have hrl:rs.length<=j:=by rw [hlen];exact qZ (List.length_filter_le _ _) (by simp)
 by_cases hlt:j < n
 ·refine qL (hturn j h ma2 tk _ hlt hst' hC' hK) (fun r sa1 hr=>?_) fun _ _ e=>e
  obtain ⟨v,rfl,hr⟩:=hr
  refine qL hr (fun _ sa2 h2=>qL h2 (fun _ sa3 h3=>?_) fun _ _ e=>e) fun _ _ e=>e
  obtain ⟨hd3,tka3,ma3,rfl,sta3,C3,nm3,ka3⟩:=h3
  have notin:∀ a,s.heap.get? a=none->a ∉ wr/\a≠C/\a≠D:=fun a ha=>by
   refine ⟨fun hm=>?_,fun q=>?_,fun q=>?_⟩
   ·obtain ⟨o,ho⟩:=alive _ _ hst a hm;rw [ha] at ho;cases ho
   ·obtain ⟨o,ho⟩:=yQk hC;rw [<- q,ha] at ho;cases ho
   ·rw [q,hD] at ha;cases ha
  have Ka3:yQN wr C D s.heap hd3:=fun c o a b d e=>ka3 c o a b (hK c o a b d e)
  have Da3:hd3.get? D=some (listOf (rs.map Prod.fst).toArray c):=ka3 _ _ hDw hDC hD'
  have Na3:∀ r∈rs,∀ q∈r.2,hd3.get? q.1=some q.2/\s.heap.get? q.1=none:=fun r hr q hq=>⟨ka3 _ _ (notin _ (hN r hr q hq).2).1 (notin _ (hN r hr q hq).2).2.1 (hN r hr q hq).1,(hN r hr q hq).2⟩
  refine qL (htest j hd3 ma3 tka3 _ hlt sta3 C3 nm3 Ka3) (fun ok sa4 h4=>?_) fun _ _ e=>e
  obtain ⟨rfl,ha4,tka4,rfl,t4⟩:=h4
  have st4:=frame _ _ ha4 sta3 fun c o _ _ e=>t4 c o e
  have C4:=ns_at C3 fun o e=>t4 _ o e
  have K4:yQN wr C D s.heap ha4:=fun c o a b d e=>t4 c o (Ka3 c o a b d e)
  have rg:(List.range (j+1)).filter p=(List.range j).filter p++if p j then [j] else []:=by
   rw [List.range_succ,List.filter_append];cases hp:p j<;>simp [hp]
  by_cases hp:p j=true
  ·rw [qN hp]
   rw [qN hp] at rg
   refine qL (helt j ha4 ma3 tka4 _ hlt hp st4 C4 nm3 K4) (fun y s5 h5=>?_) fun _ _ e=>e
   obtain ⟨ha5,tka5,nw,rfl,t5,y5,n5⟩:=h5
   have D5:ha5.get? D=some (listOf (rs.map Prod.fst).toArray c):=t5 _ _ (t4 _ _ Da3)
   refine wpAny_list_append_plain ⟨_,D5⟩ (fun ha6 l6 s6=>?_) (hsz:=by rw [size_toArray,length_map,sizeLine_eq];exact (jg4 [_,_,_] 0xf20f12f00003e8d1f0ab1000000d hn hj hrl))
   obtain ⟨c6,l6⟩:=l6
   have Ka5:yQN wr C D s.heap ha5:=fun c o a b d e=>t5 c o (K4 c o a b d e)
   have sta5:=frame _ _ ha5 st4 fun c o _ _ e=>t5 c o e
   have fresh5:∀ q∈nw,s.heap.get? q.1=none:=fun q hq=>by
    cases z:s.heap.get? q.1 with
    | none=>rfl
    | some o=>
     have hn4:=(n5 q hq).2
     by_cases a1:q.1∈wr
     ·obtain ⟨o',ho'⟩:=alive _ _ st4 _ a1;rw [hn4] at ho';cases ho'
     by_cases a2:q.1=C
     ·obtain ⟨o',ho'⟩:=yQk C4;rw [<- a2,hn4] at ho';cases ho'
     by_cases a3:q.1=D
     ·rw [a3,t4 _ _ Da3] at hn4;cases hn4
     rw [K4 _ _ a1 a2 a3 z] at hn4;cases hn4
   refine ⟨n+1 - (j+1),(jl3 [_,_,_,_] 0xfab2aab31fa30ab2f10 na (nc (jg2 [_,_] 0xf01fab1abab0 hj))),j+1,ha6,tka5,ma3,rs++[(y,nw)],c6,rfl,hlt,rfl,frame _ _ ha6 sta5 fun c o _ d e=>s6.extBut c o d e,ns_at C4 fun o e=>s6.extBut _ o (vF hDC) (t5 _ o e),?_,fun c o a b d e=>s6.extBut c o d (Ka5 c o a b d e),?_,?_,?_⟩
   ·simpa using l6
   ·rw [rg];simp [hlen]
   ·intro i r e
    rw [rg]
    rcases lt_trichotomy i rs.length with hi | hi | hi
    ·rw [List.getElem?_append_left hi] at e
     have:=hY i r e
     rwa [qR,List.getElem?_append_left (jl3 [_,_,_] 0xf2ab1f02f10 (qD hlen :) hi),<- qR]
    ·subst hi
     rw [List.getElem?_append_right (vC _)] at e
     simp at e;subst e
     rw [qR,List.getElem?_append_right (jg2 [_,_] 0xf01f1ab0 (qD (hlen).symm :)),hlen]
     simpa using y5
    ·rw [List.getElem?_append_right (jg2 [_,_] 0xf0ab1f1ab0 hi)] at e
     have:i - rs.length≠0:=by exact (fun zzq=>nq3 [_,_,_] 0xfa102f2ab1f0c0 (qD zzq :) hi na)
     obtain ⟨d,hd⟩:∃ d,i - rs.length=d+1:=⟨i - rs.length - 1,by exact (qH (jg2 [_,_] 0xfab01f1abab0 na) (jg2 [_,_] 0xf0ab1fab1ab0 (nc (jg3 [_,_,_] 0xfa102f2ab1fbab0 hi na))))⟩
     rw [hd] at e;simp at e
   ·intro r hr q hq
    rcases qF.mp hr with hr | hr
    ·have z:=Na3 r hr q hq
     exact ⟨s6.extBut _ _ (notin _ z.2).2.2 (t5 _ _ (t4 _ _ z.1)),z.2⟩
    ·rw [qC] at hr
     subst hr
     have z:=fresh5 q hq
     exact ⟨s6.extBut _ _ (notin _ z).2.2 (n5 q hq).1,z⟩
  ·rw [qM hp]
   have hp':p j=false:=by simpa using hp
   rw [qM hp,append_nil] at rg
   refine ⟨n+1 - (j+1),(jl3 [_,_,_,_] 0xfab2aab31fa30ab2f10 na (nc (jg2 [_,_] 0xf01fab1abab0 hj))),j+1,ha4,tka4,ma3,rs,c,rfl,hlt,rfl,st4,C4,t4 _ _ Da3,K4,by rw [rg];exact hlen,by rw [rg];exact hY,fun r hr q hq=>⟨t4 _ _ (Na3 r hr q hq).1,(Na3 r hr q hq).2⟩⟩
 ·obtain rfl:j=n:=by exact (qH (jg2 [_,_] 0xf01f1ab0 hj) (jg2 [_,_] 0xf01f1ab0 (qO hlt :)))
  refine hdone h tk _ _ hst' hK fun h' tk' d' k'=>?_
  have notin:∀ a,s.heap.get? a=none->a ∉ wr:=fun a ha hm=>by
   obtain ⟨o,ho⟩:=alive _ _ hst a hm;rw [ha] at ho;cases ho
  exact hR h' tk' ma2 rs c hlen hY (fun r hr q hq=>⟨k' _ _ (notin _ (hN r hr q hq).2) (hN r hr q hq).1,(hN r hr q hq).2⟩) (ns_at hC' fun o e=>k' _ o hCw e) (k' _ _ hDw hD') d' fun c o a b d e=>k' c o a (hK c o a b d e)
end K_comp_turns
section
variable {A:Around} {s:Shared} {E:VS}
theorem yQY {elt target iter:Expr} {ifs:List Expr} {scope:Scope} {pos:Pos} {it:Value} {C D:Addr} {cenv:Env} {R:Result->Shared->Prop} {n:Nat} (p:Nat->Bool)
  (St:Nat->Heap->Prop) (wr:List Addr) (Nm:Nat->(Str->Option Value)->Prop) (YP:Nat->Value->List (Addr×Obj)->Prop) (Dn:Heap->Prop) {ma0:Str->Option Value} {ca0:Nat}
  (hDC:D≠C) (hDw:D ∉ wr) (hCw:C ∉ wr) (hn:n<=1000)
  (alive:∀ j h,St j h->∀ a∈wr,∃ o,h.get? a=some o)
  (frame:∀ j h h',St j h->(∀ c o,c≠C->c≠D->h.get? c=some o->h'.get? c=some o)->St j h')
  (hturn:∀ j h ma2 tk E',j < n->St j h->h.Ns C ma2->yQN wr C D s.heap h->wpAny (model prog w) A (pyNext it) (fun r sa1=>∃ v,r=some v/\wpAny (model prog w) A (letOwnedTupleGo target it v) (fun _ sa2=>
   wpAny (model prog w) A (assign target cenv v) (fun _ sa3=>X3 fun hd3 tka3 ma3=>A5 (sa3={s with heap:=hd3,toks:=tka3}) (St (j+1) hd3) (hd3.Ns C ma3) (Nm j ma3) ((∀ c o,c ∉ wr->c≠C->h.get? c=some o->hd3.get? c=some o))) E' sa2) E' sa1) E' {s with heap:=h,toks:=tk})
  (htest:∀ j h ma3 tk E',j < n->St (j+1) h->h.Ns C ma3->Nm j ma3->yQN wr C D s.heap h->
   wpAny (model prog w) A (forIn ifs true fun c r=>if r=true then do let ok <- isTrue c cenv (eval c cenv);pure (ForInStep.yield ok) else pure (ForInStep.yield r)) (fun ok s'=>ok=p j/\∃ h',∃ tk',s'={s with heap:=h',toks:=tk'}/\h.StaysIn h') E' {s with heap:=h,toks:=tk})
  (helt:∀ j h ma3 tk E',j < n->p j=true->St (j+1) h->h.Ns C ma3->Nm j ma3->yQN wr C D s.heap h->
   wpAny (model prog w) A (eval elt cenv) (fun y s'=>X3 fun h' tk' nw=>A4 (s'={s with heap:=h',toks:=tk'}) (h.StaysIn h') (YP j y nw) (∀ q∈nw,h'.get? q.1=some q.2/\h.get? q.1=none)) E' {s with heap:=h,toks:=tk})
  (hdone:∀ h tk (Q:Option Value->Shared->Prop) E',St n h->yQN wr C D s.heap h->(∀ h' tk',Dn h'->(∀ c o,c ∉ wr->h.get? c=some o->h'.get? c=some o)->Q none {s with heap:=h',toks:=tk'})->wpAny (model prog w) A (pyNext it) Q E' {s with heap:=h,toks:=tk})
  (hst:St 0 s.heap) (hC:s.heap.Ns C ma0) (hD:s.heap.get? D=some (listOf #[] ca0))
  (hR:∀ h' tk' ma2 (rs:List (Value×List (Addr×Obj))) c,rs.length=((List.range n).filter p).length->(∀ i r,rs[i]?=some r->YP (((List.range n).filter p).getD i 0) r.1 r.2)->
   (∀ r∈rs,∀ q∈r.2,h'.get? q.1=some q.2/\s.heap.get? q.1=none)->h'.Ns C ma2->h'.get? D=some (listOf (rs.map (·.1)).toArray c)->Dn h'->yQN wr C D s.heap h'->R (.ok .next) {s with heap:=h',toks:=tk'}):
  codeAny (model prog w) A (.compLoop (.ListComp elt [⟨target,iter,ifs,0⟩] scope pos) 0 it (.ref D) cenv) R s:=
 eps (P:=U20 K_comp_turns.zP) K_comp_turns.zh (A,s,elt,target,iter,ifs,scope,pos,it,C,D,cenv,R,n,p,wr,YP,Dn,ma0,ca0) St Nm hDC hDw hCw hn alive frame hturn htest helt hdone hst hC hD hR
end
section
variable {A:Around} {s:Shared} {E:VS} {env:Env}
def yXz (prog:Program) (w:World) (A:Around) (env:Env) (elt target iter:Expr) (ifs:List Expr) (scope:Scope) (cl:List (Str×Addr)) (pos:Pos) (RR:Value->Addr->Result->Shared->Prop) (it:Value) (sa2:Shared):Prop:=
 ∀C D ha1 tk,sa2.heap.StaysIn ha1->sa2.heap.get? C=none->sa2.heap.get? D=none->D≠C->ha1.Ns C (fun O=>none)->ha1.get? D=some (listOf #[] 0)->
  (∀ (Q:VS) (E:VS),Q it { sa2 with heap:=ha1,toks:=tk }->wpAny (model prog w) A (pyIter it) Q E { sa2 with heap:=ha1,toks:=tk })/\
  codeAny (model prog w) A (.compLoop (.ListComp elt [⟨target,iter,ifs,0⟩] scope pos) 0 it (.ref D) (compEnvC scope cl C env)) (RR (.ref D) C) { sa2 with heap:=ha1,toks:=tk }
theorem yVx {elt target iter:Expr} {ifs:List Expr} {scope:Scope} {cl:List (Str×Addr)} {pos:Pos} {it:Value} {RR:Value->Addr->Result->Shared->Prop}
  (hcell:∀ y∈scope.names,y.2≠.cell) (hkind:scope.kind=.function) (h:yXz prog w A env elt target iter ifs scope cl pos RR it s):
  wpAny (model prog w) A (newList []) (fun acc sa3=>wpAny (model prog w) A (newFunctionEnv scope env.globals cl [] env.qual none .none (some env)) (fun cenv sa4=>
   codeAny (model prog w) A (.compStart (.ListComp elt [⟨target,iter,ifs,0⟩] scope pos) 0 it acc { cenv with scope:=relabel scope env }) (RR acc cenv.locals) sa4) E sa3) E s:=by
 refine wpAny_newObj_type (wpAny_newFunctionEnv hcell (by intro y hy;simp at hy) (fun ha1 hns1 hsb1=>?_) hkind)
 dsimp only at hns1 hsb1 ⊢
 generalize hH2:s.heap.push { cls:=.type "list",dict:=none,data:=.seq ([]:List Value).toArray }=H2 at hns1 hsb1 ⊢
 have hC:H2.objs.size=s.heap.objs.size+1:=by rw [<- hH2,Heap.size_push]
 have hDC:s.heap.objs.size≠H2.objs.size:=by rw [hC];exact vB (lt_succ_self _)
 have old:s.heap.StaysIn ha1:=fun b o e=>hsb1.extBut b o (by rw [hC];exact vB (lt_succ_of_lt (qU e))) (qS _ (hH2 ▸ qS _ e))
 have hacc:ha1.get? s.heap.objs.size=some (listOf #[] 0):=hsb1.extBut _ _ hDC (qS _ (hH2 ▸ qX _ rfl))
 obtain ⟨k1,k2⟩:=h H2.objs.size s.heap.objs.size ha1 (s.toks+([]:List (Str×Value)).length) old (qV (by rw [hC];exact le_succ _)) (qV (vC _)) hDC hns1 hacc
 exact codeAny_compStart_list k2 (k1 _ _ k2)
theorem yJZ {elt target iter:Expr} {ifs:List Expr} {scope:Scope} {cl:List (Str×Addr)} {pos:Pos} {Q:VS}
  (hclos:closureFor scope env=pure cl) (hcell:∀ y∈scope.names,y.2≠.cell) (hkind:scope.kind=.function)
  (hnames:∀ y∈scope.names,y.2=.local->scope.names.lookup y.1=some .local)
  (h:wpAny (model prog w) A (eval iter env) (fun xv sa1=>wpAny (model prog w) A (pyIter xv) (fun it sa2=>
   yXz prog w A env elt target iter ifs scope cl pos (fun acc C r s'=>r=.ok .next/\∃ m,s'.heap.Ns C m/\∀ h',Heap.SameBut C s'.heap h'->Q acc { s' with heap:=h' }) it sa2) E sa1) E s)
  (hs:∀ x,foldedSetIterable iter env x=pure x:=by intro _;rfl):
  wpAny (model prog w) A (eval (.ListComp elt [⟨target,iter,ifs,0⟩] scope pos) env) Q E s:=by
 rw [eval_ListComp]
 refine wpAny_comprehension_free (use:=none) rfl hs hclos hkind hnames (qL h (fun xv sa1 ha1=>qL ha1 (fun it sa2 ha2=>?_) fun _ _ e=>e) fun _ _ e=>e)
 refine yVx (RR:=fun acc C=>compPost (model prog w) A E none Q acc C) hcell hkind ?_
 intro C D ha1 tk a b c d e f
 obtain ⟨g1,g2⟩:=ha2 C D ha1 tk a b c d e f
 refine ⟨g1,codeAny_mono g2 fun r s' hr=>?_⟩
 obtain ⟨rfl,hr⟩:=hr
 exact hr
theorem yVc {elt target iter:Expr} {y:Str} {py:Pos} {ifs:List Expr} {scope:Scope} {cl:List (Str×Addr)} {pos spos:Pos} {Q:Flow->Shared->Prop}
  (hsw:swapsWith (.ListComp elt [⟨target,iter,ifs,0⟩] scope pos) (some (.Name y py)) spos.line env=pure true)
  (hclos:closureFor scope env=pure cl) (hcell:∀ z∈scope.names,z.2≠.cell) (hkind:scope.kind=.function)
  (hnames:∀ z∈scope.names,z.2=.local->scope.names.lookup z.1=some .local)
  (hy:env.kindOf y=some .local) (hp:(env.scope.kind == .class || (env.scope.kind == .module && env.locals != env.globals))=false)
  (h:wpAny (model prog w) A (eval iter env) (fun xv sa1=>wpAny (model prog w) A (pyIter xv) (fun it sa2=>
   yXz prog w A env elt target iter ifs scope cl pos (fun acc C r s'=>r=.ok .next/\X2 fun m mL=>A4 (s'.heap.Ns C m) (s'.heap.Ns env.locals mL) (C≠env.locals) (∀ h' tk,h'.Ns env.locals (fun z=>if z=y then some acc else mL z)->(∀ c o,c≠env.locals->c≠C->s'.heap.get? c=some o->h'.get? c=some o)->Q .next { s' with heap:=h',toks:=tk })) it sa2) E sa1) E s)
  (hs:∀ x,foldedSetIterable iter env x=pure x:=by intro _;rfl):
  wpAny (model prog w) A (exec (.Assign [.Name y py] (.ListComp elt [⟨target,iter,ifs,0⟩] scope pos) spos) env) Q E s:=by
 rw [exec_Assign_Name_used _ _ _ _ hsw]
 refine qA (wpAny_standAt (qA ?_))
 show wpAny _ A (do let _ <- comprehension (.ListComp elt [⟨target,iter,ifs,0⟩] scope pos) scope env _ (newList []) false (eval iter env) (some (assign (.Name y py) env))) _ _ s
 refine qA (qL (wpAny_comprehension_free (use:=some (assign (.Name y py) env)) (Q:=fun _ s'=>Q .next s') rfl hs hclos hkind hnames
  (qL h (fun xv sa1 ha1=>qL ha1 (fun it sa2 ha2=>?_) fun _ _ e=>e) fun _ _ e=>e)) (fun _ s' hq=>qI (qI hq)) fun _ _ e=>e)
 refine yVx (RR:=fun acc C=>compPost (model prog w) A E (some (assign (.Name y py) env)) (fun _ s'=>Q .next s') acc C) hcell hkind ?_
 intro C D ha1 tk a b c d e f
 obtain ⟨g1,g2⟩:=ha2 C D ha1 tk a b c d e f
 refine ⟨g1,codeAny_mono g2 fun r s' hr=>?_⟩
 obtain ⟨rfl,m,mL,hm,hL,hne,hr⟩:=hr
 show wpAny _ A (assign (.Name y py) env (.ref D)) _ _ _
 refine wpAny_assign_Name (wpAny_storeName_local hy hL (fun ha2 hn2 hs2=>?_) hp)
 refine ⟨m,ns_at hm fun o e=>hs2.extBut _ o hne e,fun hd3 hsa3=>?_⟩
 exact hr hd3 _ (ns_at hn2 fun o e=>hsa3.extBut _ o (vF hne) e) fun c o c1 c2 e=>hsa3.extBut _ o c2 (hs2.extBut _ o c1 e)
theorem cenv_plain {scope:Scope} {cl:List (Str×Addr)} {C:Addr} (hkind:scope.kind=.function):
  ((compEnvC scope cl C env).scope.kind == .class || ((compEnvC scope cl C env).scope.kind == .module && (compEnvC scope cl C env).locals != (compEnvC scope cl C env).globals))=false:=by simp [compEnvC,relabel,hkind]
theorem store_c {scope:Scope} {cl:List (Str×Addr)} {C:Addr} {x:Str} {px:Pos} {v:Value} {m:Str->Option Value} {Q:Unit->Shared->Prop} (hkind:scope.kind=.function) (hx:scope.names.lookup x=some .local) (hn:s.heap.Ns C m)
  (h:∀ h' tk,h'.Ns C (fun y=>if y=x then some v else m y)->Heap.SameBut C s.heap h'->Q () {s with heap:=h',toks:=tk}):wpAny (model prog w) A (assign (.Name x px) (compEnvC scope cl C env) v) Q E s:=
 wpAny_assign_Name (wpAny_storeName_local (env:=compEnvC scope cl C env) (lookup_relabel_local hx) hn (fun h' a b=>h h' _ a b) (cenv_plain hkind))
theorem load_c {scope:Scope} {cl:List (Str×Addr)} {C:Addr} {x:Str} {px:Pos} {v:Value} {m:Str->Option Value} {Q:VS} (hkind:scope.kind=.function) (hx:scope.names.lookup x=some .local) (hn:s.heap.Ns C m) (hv:m x=some v)
  (h:Q v s) (hd:(x == ("__debug__":Str))=false:=by decide):wpAny (model prog w) A (eval (.Name x px) (compEnvC scope cl C env)) Q E s:=
 wpAny_Name (wpAny_loadName_local (env:=compEnvC scope cl C env) hkind (lookup_relabel_local hx) hn hv h) hd
end
namespace K_tup_comp2
def zP (A:Around) (s:Shared) (env:Env) (iter:Expr) (x0 x1:Str) (p0 p1 tp pe:Pos) (scope:Scope) (cl:List (Str×Addr)) (pos:Pos) (R:Result->Shared->Prop) (C D I R0:Addr) (n c0 c1:Nat) (f0 f1:Nat->Value) (Ts:Nat->Addr) (ma0:Str->Option Value):Prop:=∀ (kk:_) (hh:A.handled=none) (hkind:scope.kind=.function) (hx0:scope.names.lookup x0=some .local) (hx1:scope.names.lookup x1=some .local) (ne01:x0≠x1) (hn1:n<=1000) (hI:s.heap.get? I=some (liObj R0 0)) (hl:s.heap.get? R0=some (listOf ((List.range n).map fun i=>Value.ref (Ts i)).toArray c0)) (hT:∀ i,i < n->∃ m,s.heap.get? (Ts i)=some { cls:=.type "tuple",data:=.seq #[f0 i,f1 i] m }) (hC:s.heap.Ns C ma0) (hD:s.heap.get? D=some (listOf #[] c1)) (hDC:D≠C) (offC:C≠I/\C≠R0/\∀ i,i < n->C≠Ts i) (offD:D≠I/\D≠R0/\∀ i,i < n->D≠Ts i) (hd:(x0 == ("__debug__":Str))=false) (hR:∀ h' tk' ma2 c,h'.Ns C ma2->h'.get? D=some (listOf ((List.range n).map f0).toArray c)->yQN [I] C D s.heap h'->R (.ok .next) {s with heap:=h',toks:=tk'}),
  codeAny (model prog w) A (.compLoop (.ListComp (.Name x0 pe) [⟨.Tuple [.Name x0 p0,.Name x1 p1] kk tp,iter,[],0⟩] scope pos) 0 (.ref I) (.ref D) (compEnvC scope cl C env)) R s
def zc:=ep (U25 zP) ⟨({},(start default).1,default,default,default,default,default,default,default,default,default,[],default,fun O O=>True,0,0,0,0,0,0,0,fun O=>.none,fun O=>.none,fun O=>0,fun O=>none)⟩
def zd1:=zc.2.2.2.2.2.2.2.2
def zd2:=zd1.2.2.2.2.2.2.2.2
def A:=zc.1
def x0:=zc.2.2.2.2.1
def C:=zd1.2.2.2.2.2.2.1
def I:=zd2.1
def R0:=zd2.2.1
def n:=zd2.2.2.1
def c0:=zd2.2.2.2.1
def f0:=zd2.2.2.2.2.2.1
def f1:=zd2.2.2.2.2.2.2.1
def Ts:=zd2.2.2.2.2.2.2.2.1
theorem zh:zP A zc.2.1 zc.2.2.1 zc.2.2.2.1 x0 zc.2.2.2.2.2.1 zc.2.2.2.2.2.2.1 zc.2.2.2.2.2.2.2.1 zd1.1 zd1.2.1 zd1.2.2.1 zd1.2.2.2.1 zd1.2.2.2.2.1 zd1.2.2.2.2.2.1 C zd1.2.2.2.2.2.2.2.1 I R0 n c0 zd2.2.2.2.2.1 f0 f1 Ts zd2.2.2.2.2.2.2.2.2:=by
 intro kk hh hkind hx0 hx1 ne01 hn1 hI hl hT hC hD hDC offC offD hd hR
 obtain ⟨oC1,oC2,oC3⟩:=offC
 obtain ⟨oD1,oD2,oD3⟩:=offD
 have lI:R0≠I:=fun q=>by rw [q,hI] at hl;have:=wE Obj.data (wD hl);simp [liObj,W.listOf] at this
 have tI:∀ i,i < n->Ts i≠I:=fun i hi q=>by obtain ⟨m,e⟩:=hT i hi;rw [q,hI] at e;have:=wE Obj.data (wD e);simp [liObj] at this
 refine yQY (p:=fun O=>true) (n:=n)
  (St:=fun j h=>h.get? I=some (liObj R0 j)/\h.get? R0=some (listOf ((List.range n).map fun i=>Value.ref (Ts i)).toArray c0)/\∀ i,i < n->∃ m,h.get? (Ts i)=some { cls:=.type "tuple",data:=.seq #[f0 i,f1 i] m })
  (wr:=[I]) (Nm:=fun j m=>m x0=some (f0 j)) (YP:=fun j y nw=>y=f0 j/\nw=[]) (Dn:=fun O=>True)
  hDC (by simp [oD1]) (by simp [oC1]) hn1 ?_ ?_ ?_ ?_ ?_ ?_ ⟨hI,hl,hT⟩ hC hD ?_
 ·rintro j h ⟨g1,g2,g3⟩ a ha
  simp only [qG,wG,or_false] at ha
  subst ha;exact ⟨_,g1⟩
 ·rintro j h h' ⟨g1,g2,g3⟩ k
  exact ⟨k _ _ (vF oC1) (vF oD1) g1,k _ _ (vF oC2) (vF oD2) g2,fun i hi=>(g3 i hi).imp fun m e=>k _ _ (vF (oC3 i hi)) (vF (oD3 i hi)) e⟩
 ·rintro j h ma2 tk E' hj ⟨g1,g2,g3⟩ hC' hK
  refine pyNext_li_item g1 g2 (x:=.ref (Ts j)) (by simp [hj]) fun ha2 k1 s2=>⟨_,rfl,?_⟩
  refine wpAny_letOwnedTupleGo_listiter (li_is k1) ?_
  obtain ⟨mm,g4⟩:=g3 j hj
  refine assign_Tuple_tuple hh ⟨_,s2.extBut _ _ (tI j hj) g4,rfl,_,rfl⟩ rfl rfl fun ha5 he=>?_
  have he':∀ b o,ha2.get? b=some o->ha5.get? b=some o:=fun b o e=>he b o (vB (qU e)) e
  have n20:ha5.Ns C ma2:=ns_at hC' fun o e=>he' _ o (s2.extBut _ o oC1 e)
  refine assignInOrder_cons (store_c hkind hx0 n20 fun h21 tk21 n21 s21=>?_)
  refine assignInOrder_cons (store_c hkind hx1 n21 fun h22 tk22 n22 s22=>?_)
  refine assignInOrder_nil ?_
  have up:∀ c o,c≠C->ha2.get? c=some o->h22.get? c=some o:=fun c o hc e=>s22.extBut c o hc (s21.extBut c o hc (he' c o e))
  refine ⟨h22,tk22,_,rfl,⟨up _ _ (vF oC1) k1,up _ _ (vF oC2) (s2.extBut _ _ lI g2),fun i hi=>(g3 i hi).imp fun m e=>up _ _ (vF (oC3 i hi)) (s2.extBut _ _ (tI i hi) e)⟩,n22,?_,?_⟩
  ·rw [qM ne01,qN rfl]
  ·intro c o hw hc e
   simp only [qG,wG,or_false] at hw
   exact up _ _ hc (s2.extBut _ _ hw e)
 ·rintro j h ma3 tk E' hj st hC' nm hK
  exact wpAny_tests_nil ⟨rfl,h,tk,rfl,fun _ _ e=>e⟩
 ·rintro j h ma3 tk E' hj _ st hC' q2 hK
  exact load_c hkind hx0 hC' q2 ⟨h,tk,[],rfl,fun _ _ e=>e,⟨rfl,rfl⟩,fun q hq=>by simp at hq⟩ hd
 ·rintro h tk Q E' ⟨g1,g2,g3⟩ hK k
  refine pyNext_li_end hh g1 g2 (by simp) fun h' a b=>k h' tk trivial fun c o hw e=>?_
  simp only [qG,wG,or_false] at hw
  exact b c o hw e
 ·intro h' tk' ma2 rs c q1 q2 q3 q4 q5 q6 q7
  have fr:(List.range n).filter (fun O=>true)=List.range n:=filter_eq_self.mpr (by simp)
  rw [fr] at q1 q2
  rw [length_range] at q1
  refine hR h' tk' ma2 c q4 ?_ q7
  have:rs.map (·.1)=(List.range n).map f0:=by
   refine ext_getElem (by simp [q1]) fun i a b=>?_
   have hi:i < rs.length:=by simpa using a
   have:=(q2 i rs[i] (qT hi)).1
   have hn:i < n:=(jl3 [_,_,_] 0xf2ab1f02f10 (qD q1 :) hi)
   simpa [qR,hn] using this
  rw [this] at q5;exact q5
end K_tup_comp2
section
variable {A:Around} {s:Shared} {E:VS} {env:Env}
theorem yYl {iter:Expr} {x0 x1:Str} {p0 p1 tp pe:Pos} {kk} {scope:Scope} {cl:List (Str×Addr)} {pos:Pos} {R:Result->Shared->Prop} {C D I R0:Addr} {n c0 c1:Nat} {f0 f1:Nat->Value} {Ts:Nat->Addr}
  {ma0:Str->Option Value} (hh:A.handled=none) (hkind:scope.kind=.function) (hx0:scope.names.lookup x0=some .local) (hx1:scope.names.lookup x1=some .local) (ne01:x0≠x1) (hn1:n<=1000)
  (hI:s.heap.get? I=some (liObj R0 0)) (hl:s.heap.get? R0=some (listOf ((List.range n).map fun i=>Value.ref (Ts i)).toArray c0))
  (hT:∀ i,i < n->∃ m,s.heap.get? (Ts i)=some { cls:=.type "tuple",data:=.seq #[f0 i,f1 i] m })
  (hC:s.heap.Ns C ma0) (hD:s.heap.get? D=some (listOf #[] c1)) (hDC:D≠C) (offC:C≠I/\C≠R0/\∀ i,i < n->C≠Ts i) (offD:D≠I/\D≠R0/\∀ i,i < n->D≠Ts i) (hd:(x0 == ("__debug__":Str))=false)
  (hR:∀ h' tk' ma2 c,h'.Ns C ma2->h'.get? D=some (listOf ((List.range n).map f0).toArray c)->yQN [I] C D s.heap h'->R (.ok .next) {s with heap:=h',toks:=tk'}):
  codeAny (model prog w) A (.compLoop (.ListComp (.Name x0 pe) [⟨.Tuple [.Name x0 p0,.Name x1 p1] kk tp,iter,[],0⟩] scope pos) 0 (.ref I) (.ref D) (compEnvC scope cl C env)) R s:=
 eps (P:=U25 K_tup_comp2.zP) K_tup_comp2.zh (A,s,env,iter,x0,x1,p0,p1,tp,pe,scope,cl,pos,R,C,D,I,R0,n,c0,c1,f0,f1,Ts,ma0) kk hh hkind hx0 hx1 ne01 hn1 hI hl hT hC hD hDC offC offD hd hR
end
namespace K_tup_comp3
def zP (A:Around) (s:Shared) (env:Env) (iter:Expr) (x0 x1 x2:Str) (p0 p1 p2 tp pe:Pos) (scope:Scope) (cl:List (Str×Addr)) (pos:Pos) (R:Result->Shared->Prop) (C D I R0:Addr) (n c0 c1:Nat) (f0 f1 f2:Nat->Value) (Ts:Nat->Addr) (ma0:Str->Option Value):Prop:=∀ (kk:_) (hh:A.handled=none) (hkind:scope.kind=.function) (hx0:scope.names.lookup x0=some .local) (hx1:scope.names.lookup x1=some .local) (hx2:scope.names.lookup x2=some .local) (ne01:x0≠x1) (ne02:x0≠x2) (ne12:x1≠x2) (hn1:n<=1000) (hI:s.heap.get? I=some (liObj R0 0)) (hl:s.heap.get? R0=some (listOf ((List.range n).map fun i=>Value.ref (Ts i)).toArray c0)) (hT:∀ i,i < n->∃ m,s.heap.get? (Ts i)=some { cls:=.type "tuple",data:=.seq #[f0 i,f1 i,f2 i] m }) (hC:s.heap.Ns C ma0) (hD:s.heap.get? D=some (listOf #[] c1)) (hDC:D≠C) (offC:C≠I/\C≠R0/\∀ i,i < n->C≠Ts i) (offD:D≠I/\D≠R0/\∀ i,i < n->D≠Ts i) (hd:(x2 == ("__debug__":Str))=false) (hR:∀ h' tk' ma2 c,h'.Ns C ma2->h'.get? D=some (listOf ((List.range n).map f2).toArray c)->yQN [I] C D s.heap h'->R (.ok .next) {s with heap:=h',toks:=tk'}),
  codeAny (model prog w) A (.compLoop (.ListComp (.Name x2 pe) [⟨.Tuple [.Name x0 p0,.Name x1 p1,.Name x2 p2] kk tp,iter,[],0⟩] scope pos) 0 (.ref I) (.ref D) (compEnvC scope cl C env)) R s
def zc:=ep (U28 zP) ⟨({},(start default).1,default,default,default,default,default,default,default,default,default,default,default,[],default,fun O O=>True,0,0,0,0,0,0,0,fun O=>.none,fun O=>.none,fun O=>.none,fun O=>0,fun O=>none)⟩
def zd1:=zc.2.2.2.2.2.2.2.2
def zd2:=zd1.2.2.2.2.2.2.2.2
def zd3:=zd2.2.2.2.2.2.2.2.2
def A:=zc.1
def x2:=zc.2.2.2.2.2.2.1
def C:=zd2.1
def I:=zd2.2.2.1
def R0:=zd2.2.2.2.1
def n:=zd2.2.2.2.2.1
def c0:=zd2.2.2.2.2.2.1
def f0:=zd2.2.2.2.2.2.2.2.1
def f1:=zd3.1
def f2:=zd3.2.1
def Ts:=zd3.2.2.1
theorem zh:zP A zc.2.1 zc.2.2.1 zc.2.2.2.1 zc.2.2.2.2.1 zc.2.2.2.2.2.1 x2 zc.2.2.2.2.2.2.2.1 zd1.1 zd1.2.1 zd1.2.2.1 zd1.2.2.2.1 zd1.2.2.2.2.1 zd1.2.2.2.2.2.1 zd1.2.2.2.2.2.2.1 zd1.2.2.2.2.2.2.2.1 C zd2.2.1 I R0 n c0 zd2.2.2.2.2.2.2.1 f0 f1 f2 Ts zd3.2.2.2:=by
 intro kk hh hkind hx0 hx1 hx2 ne01 ne02 ne12 hn1 hI hl hT hC hD hDC offC offD hd hR
 obtain ⟨oC1,oC2,oC3⟩:=offC
 obtain ⟨oD1,oD2,oD3⟩:=offD
 have lI:R0≠I:=fun q=>by rw [q,hI] at hl;have:=wE Obj.data (wD hl);simp [liObj,W.listOf] at this
 have tI:∀ i,i < n->Ts i≠I:=fun i hi q=>by obtain ⟨m,e⟩:=hT i hi;rw [q,hI] at e;have:=wE Obj.data (wD e);simp [liObj] at this
 refine yQY (p:=fun O=>true) (n:=n)
  (St:=fun j h=>h.get? I=some (liObj R0 j)/\h.get? R0=some (listOf ((List.range n).map fun i=>Value.ref (Ts i)).toArray c0)/\∀ i,i < n->∃ m,h.get? (Ts i)=some { cls:=.type "tuple",data:=.seq #[f0 i,f1 i,f2 i] m })
  (wr:=[I]) (Nm:=fun j m=>m x2=some (f2 j)) (YP:=fun j y nw=>y=f2 j/\nw=[]) (Dn:=fun O=>True)
  hDC (by simp [oD1]) (by simp [oC1]) hn1 ?_ ?_ ?_ ?_ ?_ ?_ ⟨hI,hl,hT⟩ hC hD ?_
 ·rintro j h ⟨g1,g2,g3⟩ a ha
  simp only [qG,wG,or_false] at ha
  subst ha;exact ⟨_,g1⟩
 ·rintro j h h' ⟨g1,g2,g3⟩ k
  exact ⟨k _ _ (vF oC1) (vF oD1) g1,k _ _ (vF oC2) (vF oD2) g2,fun i hi=>(g3 i hi).imp fun m e=>k _ _ (vF (oC3 i hi)) (vF (oD3 i hi)) e⟩
 ·rintro j h ma2 tk E' hj ⟨g1,g2,g3⟩ hC' hK
  refine pyNext_li_item g1 g2 (x:=.ref (Ts j)) (by simp [hj]) fun ha2 k1 s2=>⟨_,rfl,?_⟩
  refine wpAny_letOwnedTupleGo_listiter (li_is k1) ?_
  obtain ⟨mm,g4⟩:=g3 j hj
  refine assign_Tuple_tuple hh ⟨_,s2.extBut _ _ (tI j hj) g4,rfl,_,rfl⟩ rfl rfl fun ha5 he=>?_
  have he':∀ b o,ha2.get? b=some o->ha5.get? b=some o:=fun b o e=>he b o (vB (qU e)) e
  have n20:ha5.Ns C ma2:=ns_at hC' fun o e=>he' _ o (s2.extBut _ o oC1 e)
  refine assignInOrder_cons (store_c hkind hx0 n20 fun h21 tk21 n21 s21=>?_)
  refine assignInOrder_cons (store_c hkind hx1 n21 fun h22 tk22 n22 s22=>?_)
  refine assignInOrder_cons (store_c hkind hx2 n22 fun h23 tk23 n23 s23=>?_)
  refine assignInOrder_nil ?_
  have up:∀ c o,c≠C->ha2.get? c=some o->h23.get? c=some o:=fun c o hc e=>s23.extBut c o hc (s22.extBut c o hc (s21.extBut c o hc (he' c o e)))
  refine ⟨h23,tk23,_,rfl,⟨up _ _ (vF oC1) k1,up _ _ (vF oC2) (s2.extBut _ _ lI g2),fun i hi=>(g3 i hi).imp fun m e=>up _ _ (vF (oC3 i hi)) (s2.extBut _ _ (tI i hi) e)⟩,n23,?_,?_⟩
  ·rw [qN rfl]
  ·intro c o hw hc e
   simp only [qG,wG,or_false] at hw
   exact up _ _ hc (s2.extBut _ _ hw e)
 ·rintro j h ma3 tk E' hj st hC' nm hK
  exact wpAny_tests_nil ⟨rfl,h,tk,rfl,fun _ _ e=>e⟩
 ·rintro j h ma3 tk E' hj _ st hC' q2 hK
  exact load_c hkind hx2 hC' q2 ⟨h,tk,[],rfl,fun _ _ e=>e,⟨rfl,rfl⟩,fun q hq=>by simp at hq⟩ hd
 ·rintro h tk Q E' ⟨g1,g2,g3⟩ hK k
  refine pyNext_li_end hh g1 g2 (by simp) fun h' a b=>k h' tk trivial fun c o hw e=>?_
  simp only [qG,wG,or_false] at hw
  exact b c o hw e
 ·intro h' tk' ma2 rs c q1 q2 q3 q4 q5 q6 q7
  have fr:(List.range n).filter (fun O=>true)=List.range n:=filter_eq_self.mpr (by simp)
  rw [fr] at q1 q2
  rw [length_range] at q1
  refine hR h' tk' ma2 c q4 ?_ q7
  have:rs.map (·.1)=(List.range n).map f2:=by
   refine ext_getElem (by simp [q1]) fun i a b=>?_
   have hi:i < rs.length:=by simpa using a
   have:=(q2 i rs[i] (qT hi)).1
   have hn:i < n:=(jl3 [_,_,_] 0xf2ab1f02f10 (qD q1 :) hi)
   simpa [qR,hn] using this
  rw [this] at q5;exact q5
end K_tup_comp3
section
variable {A:Around} {s:Shared} {E:VS} {env:Env}
theorem yYk {iter:Expr} {x0 x1 x2:Str} {p0 p1 p2 tp pe:Pos} {kk} {scope:Scope} {cl:List (Str×Addr)} {pos:Pos} {R:Result->Shared->Prop} {C D I R0:Addr} {n c0 c1:Nat} {f0 f1 f2:Nat->Value} {Ts:Nat->Addr}
  {ma0:Str->Option Value} (hh:A.handled=none) (hkind:scope.kind=.function) (hx0:scope.names.lookup x0=some .local) (hx1:scope.names.lookup x1=some .local) (hx2:scope.names.lookup x2=some .local) (ne01:x0≠x1) (ne02:x0≠x2) (ne12:x1≠x2) (hn1:n<=1000)
  (hI:s.heap.get? I=some (liObj R0 0)) (hl:s.heap.get? R0=some (listOf ((List.range n).map fun i=>Value.ref (Ts i)).toArray c0))
  (hT:∀ i,i < n->∃ m,s.heap.get? (Ts i)=some { cls:=.type "tuple",data:=.seq #[f0 i,f1 i,f2 i] m })
  (hC:s.heap.Ns C ma0) (hD:s.heap.get? D=some (listOf #[] c1)) (hDC:D≠C) (offC:C≠I/\C≠R0/\∀ i,i < n->C≠Ts i) (offD:D≠I/\D≠R0/\∀ i,i < n->D≠Ts i) (hd:(x2 == ("__debug__":Str))=false)
  (hR:∀ h' tk' ma2 c,h'.Ns C ma2->h'.get? D=some (listOf ((List.range n).map f2).toArray c)->yQN [I] C D s.heap h'->R (.ok .next) {s with heap:=h',toks:=tk'}):
  codeAny (model prog w) A (.compLoop (.ListComp (.Name x2 pe) [⟨.Tuple [.Name x0 p0,.Name x1 p1,.Name x2 p2] kk tp,iter,[],0⟩] scope pos) 0 (.ref I) (.ref D) (compEnvC scope cl C env)) R s:=
 eps (P:=U28 K_tup_comp3.zP) K_tup_comp3.zh (A,s,env,iter,x0,x1,x2,p0,p1,p2,tp,pe,scope,cl,pos,R,C,D,I,R0,n,c0,c1,f0,f1,f2,Ts,ma0) kk hh hkind hx0 hx1 hx2 ne01 ne02 ne12 hn1 hI hl hT hC hD hDC offC offD hd hR
end
def Fst (raw:Nat->Rw) (j:Nat):Prop:=∀ i,i < j->raw i≠.thorn/\(raw i).t=(raw 0).t
theorem Fst.snoc {raw:Nat->Rw} {j:Nat} (h:Fst raw j) (h1:raw j≠.thorn) (h2:(raw j).t=(raw 0).t):Fst raw (j+1):=fun i hi=>(Nat.lt_or_eq_of_le (Nat.le_of_lt_succ hi)).elim (h i) fun q=>by rw [q];exact ⟨h1,h2⟩
theorem Fst.same {raw:Nat->Rw} {j a b:Nat} (h:Fst raw j) (ha:a < j) (hb:b < j):(raw a).t=(raw b).t:=(h a ha).2.trans (h b hb).2.symm
noncomputable def scR (dn:Bool) (M:Int) (raw:Nat->Rw) (j p:Nat):Int:=scD dn (fun p=>sc M j (raw p)) p
theorem scR_lt {dn:Bool} {M:Int} {raw:Nat->Rw} {j p q:Nat} (h:(raw p).t=(raw q).t):(scR dn M raw j p < scR dn M raw j q)↔(if dn=true then (raw p).z < (raw q).z else (raw q).z < (raw p).z):=by
 unfold scR scD
 cases dn with
 | true=>simp only [if_true];exact sc_lt h
 | false=>simp only [wH,if_false,Int.neg_lt_neg_iff];exact sc_lt h.symm
set_option tactic.hygienic true in
theorem yYE {sc:Nat->Int} {j:Nat} (hj:0 < j):(ordD sc (j+1)).getD 0 0=if sc ((ordD sc j).getD 0 0) < sc j then j else (ordD sc j).getD 0 0:=by
 show (insP sc j (ordD sc j)).getD 0 0=_
 have hl:=ordD_len (sc:=sc) j
 cases h:ordD sc j with
 | nil=>rw [h] at hl;exact absurd hl.symm (ne_of_gt hj)
 | cons a r=>
  unfold insP
  split
  ·rename_i q;simp [q]
  ·rename_i q;simp [q]
section
variable {A:Around} {E:VS} {s:Shared} {IT BS fq:Addr} {kv d:Value} {B:Heap} {N:Nat} {raw:Nat->Rw} {e rv:Nat->Value} {outer:List Env} {M:Int} {Ms:List Addr}
def yAN (prog:Program) (w:World) (A:Around) (B:Heap) (outer:List Env) (IT:Addr) (kv:Value) (N:Nat) (raw:Nat->Rw) (e:Nat->Value) (Ms:List Addr) (St Mid:Nat->Heap->Prop):Prop:=
 ∀j (b':Heap) (s:Shared) (Q:Option Value->Shared->Prop) (E:VS),j < N->B.StaysIn b'->b'.StaysIn s.heap->b'.objs.size<=s.heap.objs.size->(∀ a∈Ms,b'.get? a=none)->St j s.heap->
  (∀ h' tk,b'.StaysIn h'->Mid j h'->Q (some (e j)) {s with heap:=h',toks:=tk})->
  (∀ ex h' tk b2,kv=.none->raw j=.thorn->(fb b' outer).StaysIn b2->St (j+1) b2->yQs "ValueError" b2 outer s.heap (·=thW j) ex h'->E (.ref ex) {s with heap:=h',toks:=tk})->
  wpAny (model prog w) A (pyNext (.ref IT)) Q E s
def yDj (prog:Program) (w:World) (A:Around) (B:Heap) (IT:Addr) (N:Nat) (Ms:List Addr) (St:Nat->Heap->Prop):Prop:=
 ∀(b':Heap) (s:Shared) (Q:Option Value->Shared->Prop) (E:VS),B.StaysIn b'->b'.StaysIn s.heap->(∀ a∈Ms,b'.get? a=none)->St N s.heap->(∀ h' tk,b'.StaysIn h'->St N h'->Q none {s with heap:=h',toks:=tk})->wpAny (model prog w) A (pyNext (.ref IT)) Q E s
def AskK (prog:Program) (w:World) (A:Around) (B:Heap) (outer:List Env) (fq:Addr) (N:Nat) (raw:Nat->Rw) (e rv:Nat->Value) (Ms:List Addr) (St Mid:Nat->Heap->Prop):Prop:=
 ∀j (b':Heap) (s:Shared) (Q E:VS),j < N->B.StaysIn b'->b'.StaysIn s.heap->b'.objs.size<=s.heap.objs.size->(∀ a∈Ms,b'.get? a=none)->Mid j s.heap->
  (∀ h' tk,raw j≠.thorn->b'.StaysIn h'->St (j+1) h'->Q (rv j) {s with heap:=h',toks:=tk})->
  (∀ ex h' tk b2,raw j=.thorn->(fb b' outer).StaysIn b2->St (j+1) b2->yQs "ValueError" b2 outer s.heap (·=thW j) ex h'->E (.ref ex) {s with heap:=h',toks:=tk})->
  wpAny (model prog w) A (call (.ref fq) [e j]) Q E s
def yZI (N:Nat) (raw:Nat->Rw) (rv:Nat->Value):Prop:=∀ j,j < N->raw j≠.thorn->IsV (rv j) (raw j)
def yDh (prog:Program) (w:World) (A:Around) (B:Heap) (outer:List Env) (kv:Value) (N:Nat) (raw:Nat->Rw) (e rv:Nat->Value) (Ms:List Addr) (St Mid:Nat->Heap->Prop):Prop:=
 (kv=.none/\(∀ j,j < N->e j=rv j)/\∀ j h,Mid j h->raw j≠.thorn/\St (j+1) h)\/∃ fq,kv=.ref fq/\AskK prog w A B outer fq N raw e rv Ms St Mid
def yQU (Ms:List Addr) (St:Nat->Heap->Prop):Prop:=∀ j h h',St j h->(∀ a∈Ms,∀ o,h.get? a=some o->h'.get? a=some o)->St j h'
theorem yBq {g:Bool} {u v:Value} {a b:Rw} {Q:VS} (hu:IsV u a) (hv:IsV v b) (ht:a.t=b.t) (h:∀ x:Bool,(x=true↔if g=true then b.z < a.z else a.z < b.z)->Q (.bool x) s):wpAny (model prog w) A (richCompare (if g then .Gt else .Lt) u v) Q E s:=by
 cases g
 ·exact rich_lt_same hu hv ht (h _ (by simp))
 ·exact yVT hu hv ht (h _ (by simp))
noncomputable def mm (g:Bool):String:=if g then "max" else "min"
noncomputable def mmL (g:Bool):String:=if g then "max.loop" else "min.loop"
end
namespace K_loop_mm3
def zP (A:Around) (s:Shared) (IT BS:Addr) (d:Value) (B:Heap) (raw:Nat->Rw) (e rv:Nat->Value) (outer:List Env) (M:Int) (Ms:List Addr) (St Mid:Nat->Heap->Prop) (R:Result->Shared->Prop) (N:Nat) (kv:Value):Prop:=∀ (g:Bool) (hh:A.handled=none) (hff:B.FunFrames (fb B outer) outer) (hMs:∀ a∈Ms,B.get? a=none) (hMf:∀ a∈Ms,a ∉ framesOf outer) (hBS:B.get? BS=none) (hBM:BS ∉ Ms) (lS:yQU Ms St) (lM:yQU Ms Mid) (hv:yZI N raw rv) (hnext:yAN prog w A.in1 B outer IT kv N raw e Ms St Mid) (hend:yDj prog w A.in1 B IT N Ms St) (hway:yDh prog w A.in1 B outer kv N raw e rv Ms St Mid),
  ∀(k j:Nat) (s:Shared) (c:Nat) (bs:Array Value),N - j=k->j<=N->B.StaysIn s.heap->St j s.heap->s.heap.get? BS=some (listOf bs c)->Fst raw j->
   ((j=0/\bs=#[])\/(0 < j/\∃ q,A3 (bs=#[e q,rv q]) (q < j) (∀ i,i < 2->q=(ordD (scR g M raw i) j).getD 0 0)))->
   (∀ v h' tk,Fst raw N->((N=0/\v=d)\/∃ q,A3 (v=e q) (q < N) (∀ i,i < 2->q=(ordD (scR g M raw i) N).getD 0 0))->B.StaysIn h'->St N h'->R (.ok (.ret v)) {s with heap:=h',toks:=tk})->
   (∀ j q H h' tk ex t,A5 (j < N) (Fst raw j) (raw j≠.thorn) ((raw j).t≠(raw 0).t) (q < j)->(∀ i,i < 2->q=(ordD (scR g M raw i) j).getD 0 0)->B.StaysIn H->St (j+1) H->Heap.MadeExc H h' ex "TypeError" [.str (wds (if g then ">" else "<") (raw j).kd (raw q).kd) t]->R (.error (.ref ex)) {s with heap:=h',toks:=tk})->
   (∀ j ex h' tk b2,j < N->Fst raw j->raw j=.thorn->(fb B outer).StaysIn b2->St (j+1) b2->yQa outer B s.heap->yQs "ValueError" b2 outer B (·=thW j) ex h'->R (.error (.ref ex)) {s with heap:=h',toks:=tk})->
   codeAny (model prog w) A (.builtin (mmL g) ⟨[.ref IT,kv,.ref BS],[(Str.ofString "default",d)]⟩) R s
def zc:=ep (U17 zP) ⟨({},(start default).1,0,0,.none,default,fun O=>.thorn,fun O=>.none,fun O=>.none,[],0,[],fun O O=>True,fun O O=>True,fun O O=>True,0,.none)⟩
def zd1:=zc.2.2.2.2.2.2.2.2
def A:=zc.1
def s:=zc.2.1
def IT:=zc.2.2.1
def BS:=zc.2.2.2.1
def d:=zc.2.2.2.2.1
def B:=zc.2.2.2.2.2.1
def raw:=zc.2.2.2.2.2.2.1
def e:=zc.2.2.2.2.2.2.2.1
def rv:=zd1.1
def outer:=zd1.2.1
def M:=zd1.2.2.1
def Ms:=zd1.2.2.2.1
def St:=zd1.2.2.2.2.1
def R:=zd1.2.2.2.2.2.2.1
def N:=zd1.2.2.2.2.2.2.2.1
def kv:=zd1.2.2.2.2.2.2.2.2
theorem zh:zP A s IT BS d B raw e rv outer M Ms St zd1.2.2.2.2.2.1 R N kv:=by
 intro g hh hff hMs hMf hBS hBM lS lM hv hnext hend hway
 intro k
 have hL:plainId (mmL g)=true:=by
  cases g
  ·exact F.plain_min_loop
  ·exact F.plain_max_loop
 have hBf:BS ∉ framesOf outer:=fun q=>by obtain ⟨o,ho⟩:=yQZ hff q;rw [hBS] at ho;cases ho
 have hub:∀ {h:Heap},B.StaysIn h->B.StaysIn (hideAll h Ms):=fun st x o z=>vJ _ (st _ _ z) fun q=>by rw [hMs _ q] at z;cases z
 have hof:∀ {h:Heap},(hideAll h Ms).StaysIn h:=fun x o z=>vL _ z
 have hno:∀ {h:Heap},∀ a∈Ms,(hideAll h Ms).get? a=none:=fun a ha=>vK _ ha
 have hup:∀ {h:Heap} {f:Array Value->Array Value},B.StaysIn h->B.StaysIn (h.update BS (Obj.mapSeq f)):=fun st x o z=>(Heap.get?_update_other _ _ (fun q=>by rw [<- q,hBS] at z;cases z)).trans (st _ _ z)
 have hsu:∀ {h:Heap} {f:Array Value->Array Value} {j:Nat},St j h->St j (h.update BS (Obj.mapSeq f)):=fun {h f j} x=>lS j h _ x fun a ha o z=>(Heap.get?_update_other _ _ (fun q=>hBM (by rw [q];exact ha))).trans z
 have fly:∀ {b2 h1 h2:Heap} {bs:Array Value} {c j ex:Nat},(fb (hideAll h1 Ms) outer).StaysIn b2->B.StaysIn h1->h1.get? BS=some (listOf bs c)->St (j+1) b2->yQs "ValueError" b2 outer h1 (·=thW j) ex h2->
   A4 (h2.get? BS=some (listOf bs c)) ((fb B outer).StaysIn (hideAll b2 [BS])) (St (j+1) (hideAll b2 [BS])) (yQs "ValueError" (hideAll b2 [BS]) outer B (·=thW j) ex (h2.update BS (Obj.mapSeq fun O=>#[]))):=fun {b2 h1 h2 bs c j ex} f1 f2 f3 f4 f5=>by
  have fl:=f5
  obtain ⟨_,_,_,⟨sb,_⟩,_⟩:=f5
  have bB:=f1 _ _ (vJ _ (vJ _ f3 hBM) hBf)
  refine ⟨sb _ _ bB,fun x o z=>vJ _ (f1 _ _ (fb_mono (hub f2) _ _ z)) fun q=>?_,lS _ _ _ f4 fun a ha o z=>vJ _ z fun q=>hBM (by rw [<- qC.mp q];exact ha),((fl.upd bB hBf (wC ..)).from (framed_b hff (fun _ _ z=>z) f2))⟩
  rw [qC.mp q] at z
  have:=vL _ z
  rw [hBS] at this;cases this
 induction k with
 | zero=>
  intro j s c bs hk hj st hst hbs hF hb hR hT hV
  obtain rfl:j=N:=qH hj (Nat.le_of_sub_eq_zero hk)
  cases g;refine codeAny_builtin F.entry_min_loop ?_;rotate_left;refine codeAny_builtin F.entry_max_loop ?_;all_goals (
  rw [Around.under_plainId hL _]
  show wpAny _ A.in1 (seqItems? (.ref BS) >>= _) _ _ s
  refine qA (wpAny_seqItems hbs rfl ?_)
  show wpAny _ A.in1 (tryCatch (pyNext (.ref IT)) _ >>= _) _ _ s
  refine qA (wpAny_tryCatch (hend (hideAll s.heap Ms) s _ _ (hub st) hof hno hst fun h' tk st' hst'=>?_))
  have hbs':=st' _ _ (vJ _ hbs hBM)
  have stB:B.StaysIn h':=fun x o z=>st' _ _ (hub st _ _ z)
  rcases hb with ⟨hN0,rfl⟩ | ⟨hj0,q,rfl,hq,hvq⟩
  ·refine qA (vI (qI ?_))
   exact hR _ h' tk hF (.inl ⟨hN0,rfl⟩) stB hst'
  ·show wpAny _ A.in1 (updateSeq BS (fun O=>#[]) >>= _) _ _ _
   refine qA (wpAny_updateSeq hbs' rfl (qA (wpAny_letGo (qI ?_))))
   exact hR _ (h'.update BS (Obj.mapSeq fun O=>#[])) tk hF (.inr ⟨q,rfl,hq,hvq⟩) (hup stB) (hsu hst'))
 | succ k ih=>
  intro j s c bs hk hj st hst hbs hF hb hR hT hV
  have hlt:j < N:=Nat.lt_of_sub_eq_succ hk
  have hbz:bs.size<=sizeLine:=by
   rcases hb with ⟨_,rfl⟩ | ⟨_,q,rfl,_⟩
   ·exact vZ _
   ·show 2<=sizeLine
    rw [sizeLine_eq];decide
  have core:∀ (h2:Heap) tk2,raw j≠.thorn->B.StaysIn h2->St (j+1) h2->h2.get? BS=some (listOf bs c)->
    wpAny (model prog w) A.in1 (match bs.toList with
     | [oldItem,oldVal]=>(do
      let better <- (tryCatch (holding [e j,rv j] do
       let answer <- richCompare (if g then .Gt else .Lt) (rv j) oldVal
       let yes <- holding [answer] (truthy answer)
       letGo [answer]
       pure yes) fun ev=>do
        updateSeq BS fun O=>#[]
        letGo ([rv j,e j]++bs.toList.reverse) [ev]
        throw ev)
      if better then
       updateSeq BS fun O=>#[e j,rv j]
       letGo [oldVal,oldItem]
      else letGo [e j,rv j]
      again (.builtin (mmL g) ⟨[.ref IT,kv,.ref BS],[(Str.ofString "default",d)]⟩))
     | _=>(do
      updateSeq BS fun O=>#[e j,rv j]
      again (.builtin (mmL g) ⟨[.ref IT,kv,.ref BS],[(Str.ofString "default",d)]⟩)):Sem PySem.Fin) (fun fin s'=>match fin with
     | .done f=>R (.ok f) s'
     | .again c'=>c'.quiet=true/\codeAny (model prog w) A c' R s') (fun e s'=>R (.error e) s') {s with heap:=h2,toks:=tk2}:=fun h2 tk2 hnt st2 hst2 hbs2=>by
   have fin:∀ (h3:Heap) tk3 (cc:Nat) (bs':Array Value),(raw j).t=(raw 0).t->B.StaysIn h3->St (j+1) h3->h3.get? BS=some (listOf bs' cc)->(∃ q,A3 (bs'=#[e q,rv q]) (q < j+1) (∀ i,i < 2->q=(ordD (scR g M raw i) (j+1)).getD 0 0))->
     wpAny (model prog w) A.in1 (again (.builtin (mmL g) ⟨[.ref IT,kv,.ref BS],[(Str.ofString "default",d)]⟩)) (fun fin s'=>match fin with
      | .done f=>R (.ok f) s'
      | .again c'=>c'.quiet=true/\codeAny (model prog w) A c' R s') (fun e s'=>R (.error e) s') {s with heap:=h3,toks:=tk3}:=fun h3 tk3 cc bs' ht st3 hst3 hbs3 hv3=>
    qI ⟨plainId_quiet hL _,ih (j+1) {s with heap:=h3,toks:=tk3} cc bs' (by rw [Nat.sub_succ,hk];rfl) hlt st3 hst3 hbs3 (hF.snoc hnt ht) (.inr ⟨Nat.succ_pos _,hv3⟩) hR hT fun j ex h' tk b2 q1 q2 q3 q4 q5 q6 q7=>hV j ex h' tk b2 q1 q2 q3 q4 q5 (yQa.of_keeps st) q7⟩
   rcases hb with ⟨rfl,rfl⟩ | ⟨hj0,q,rfl,hq,hvq⟩
   ·show wpAny _ A.in1 (updateSeq BS (fun O=>#[e 0,rv 0]) >>= _) _ _ _
    refine qA (wpAny_updateSeq hbs2 rfl ?_)
    obtain ⟨cc,hcc⟩:∃ cc,(h2.update BS (Obj.mapSeq fun O=>#[e 0,rv 0])).get? BS=some (listOf #[e 0,rv 0] cc):=⟨_,get?_update_seq hbs2 fun O=>_⟩
    exact fin _ _ cc _ rfl (hup st2) (hsu hst2) hcc ⟨0,rfl,Nat.zero_lt_one,fun i _=>rfl⟩
   ·have hiq:=hv q (qP hq hj) (hF q hq).1
    have hij:=hv j hlt hnt
    have hq0:(raw q).t=(raw 0).t:=(hF q hq).2
    show wpAny _ A.in1 (tryCatch (holding [e j,rv j] do
     let answer <- richCompare (if g then .Gt else .Lt) (rv j) (rv q)
     let yes <- holding [answer] (truthy answer)
     letGo [answer]
     pure yes) _ >>= _) _ _ _
    refine qA (wpAny_tryCatch (wpAny_holding (qA ?_)))
    by_cases ht:(raw j).t=(raw 0).t
    ·have htq:(raw q).t=(raw j).t:=hq0.trans ht.symm
     refine yBq hij hiq htq.symm fun x hx=>?_
     refine qA (wpAny_holding (wpAny_truthy_bool ?_))
     refine qA (wpAny_letGo (qI ?_))
     have hhd:∀ i,i < 2->(ordD (scR g M raw i) (j+1)).getD 0 0=if x=true then j else q:=fun i hi=>by
      rw [yYE hj0,<- hvq i hi]
      have hs:=(scR_lt (dn:=g) (M:=M) (j:=i) htq).trans hx.symm
      by_cases z:x=true
      ·rw [qN z,qN (hs.mpr z)]
      ·rw [qM z,qM fun z2=>z (hs.mp z2)]
     by_cases z:x=true
     ·subst z
      simp only [if_true] at hhd ⊢
      refine qA (wpAny_updateSeq hbs2 rfl ?_)
      refine qA (wpAny_letGo ?_)
      obtain ⟨cc,hcc⟩:∃ cc,(h2.update BS (Obj.mapSeq fun O=>#[e j,rv j])).get? BS=some (listOf #[e j,rv j] cc):=⟨_,get?_update_seq hbs2 fun O=>_⟩
      exact fin _ _ cc _ ht (hup st2) (hsu hst2) hcc ⟨j,rfl,lt_succ_self _,fun i hi=>(hhd i hi).symm⟩
     ·simp only [qM z] at hhd ⊢
      refine qA (wpAny_letGo ?_)
      exact fin _ _ _ _ ht st2 hst2 hbs2 ⟨q,rfl,lt_succ_of_lt hq,fun i hi=>(hhd i hi).symm⟩
    ·refine yQF (g:=g) hij hiq (fun z=>ht (z.trans hq0)) ⟨hh,fun h3 tk3 ex t hx=>?_⟩
     have hb3:=hx.keeps _ _ hbs2
     show wpAny _ A.in1 (updateSeq BS (fun O=>#[]) >>= _) _ _ _
     refine qA (wpAny_updateSeq hb3 rfl (qA (wpAny_letGo (wpAny_throw ?_))))
     exact hT j q (hideAll h2 [BS]) _ _ ex t ⟨hlt,hF,hnt,ht,hq⟩ hvq (fun x o z=>vJ _ (st2 x o z) fun q=>by rw [qC.mp q,hBS] at z;cases z) (lS _ _ _ hst2 fun a ha o z=>vJ _ z fun q=>hBM (by rw [<- qC.mp q];exact ha)) (made_hide hx hbs2 (wC ..))
  cases g;refine codeAny_builtin F.entry_min_loop ?_;rotate_left;refine codeAny_builtin F.entry_max_loop ?_;all_goals (
  rw [Around.under_plainId hL _]
  show wpAny _ A.in1 (seqItems? (.ref BS) >>= _) _ _ s
  refine qA (wpAny_seqItems hbs rfl ?_)
  show wpAny _ A.in1 (tryCatch (pyNext (.ref IT)) _ >>= _) _ _ s
  refine qA (wpAny_tryCatch (hnext j (hideAll s.heap Ms) s _ _ hlt (hub st) hof (by rw [hideAll_size];exact vC _) hno hst (fun h1 tk1 st1 hm=>?_) fun ex h2 tk2 b2 hk0 hth f1 f2 f3=>?_))
  rotate_left
  ·obtain ⟨g1,g2,g3,g4⟩:=fly f1 st hbs f2 f3
   show wpAny _ A.in1 (updateSeq BS (fun O=>#[]) >>= _) _ _ _
   refine qA (wpAny_updateSeq g1 rfl (qA (wpAny_letGo (wpAny_throw ?_))) hbz (vZ _))
   exact hV j ex _ tk2 _ hlt hF hth g2 g3 (yQa.of_keeps st) g4
  have stB1:B.StaysIn h1:=fun x o z=>st1 _ _ (hub st _ _ z)
  have hbs1:=st1 _ _ (vJ _ hbs hBM)
  rcases hway with ⟨hkv,her,hmid⟩ | ⟨fq,hkv,hask⟩<;>rw [hkv] at core ⊢
  ·obtain ⟨hnt,hst1⟩:=hmid j h1 hm
   show wpAny _ A.in1 (pure (e j) >>= _) _ _ _
   refine qA (qI ?_)
   have k:=core h1 tk1 hnt stB1 hst1 hbs1
   rw [<- her j hlt] at k
   exact k
  ·show wpAny _ A.in1 (tryCatch (holding [e j] (call (.ref fq) [e j])) _ >>= _) _ _ _
   refine qA (wpAny_tryCatch (wpAny_holding (hask j (hideAll h1 Ms) {s with heap:=h1,toks:=tk1} _ _ hlt (hub stB1) hof (by rw [hideAll_size];exact vC _) hno hm (fun h2 tk2 hnt st2 hst2=>?_) fun ex h2 tk2 b2 hth f1 f2 f3=>?_)))
   ·exact core h2 tk2 hnt (fun x o z=>st2 _ _ (hub stB1 _ _ z)) hst2 (st2 _ _ (vJ _ hbs1 hBM))
   ·obtain ⟨g1,g2,g3,g4⟩:=fly f1 stB1 hbs1 f2 f3
    show wpAny _ A.in1 (updateSeq BS (fun O=>#[]) >>= _) _ _ _
    refine qA (wpAny_updateSeq g1 rfl (qA (wpAny_letGo (wpAny_throw ?_))) hbz (vZ _))
    exact hV j ex _ tk2 _ hlt hF hth g2 g3 (yQa.of_keeps st) g4)
end K_loop_mm3
section
variable {A:Around} {E:VS} {s:Shared} {IT BS fq:Addr} {kv d:Value} {B:Heap} {N:Nat} {raw:Nat->Rw} {e rv:Nat->Value} {outer:List Env} {M:Int} {Ms:List Addr}
theorem yAr {g:Bool} {St Mid:Nat->Heap->Prop} {R:Result->Shared->Prop} (hh:A.handled=none) (hff:B.FunFrames (fb B outer) outer) (hMs:∀ a∈Ms,B.get? a=none) (hMf:∀ a∈Ms,a ∉ framesOf outer) (hBS:B.get? BS=none) (hBM:BS ∉ Ms) (lS:yQU Ms St) (lM:yQU Ms Mid)
  (hv:yZI N raw rv) (hnext:yAN prog w A.in1 B outer IT kv N raw e Ms St Mid) (hend:yDj prog w A.in1 B IT N Ms St) (hway:yDh prog w A.in1 B outer kv N raw e rv Ms St Mid):
  ∀(k j:Nat) (s:Shared) (c:Nat) (bs:Array Value),N - j=k->j<=N->B.StaysIn s.heap->St j s.heap->s.heap.get? BS=some (listOf bs c)->Fst raw j->
   ((j=0/\bs=#[])\/(0 < j/\∃ q,A3 (bs=#[e q,rv q]) (q < j) (∀ i,i < 2->q=(ordD (scR g M raw i) j).getD 0 0)))->
   (∀ v h' tk,Fst raw N->((N=0/\v=d)\/∃ q,A3 (v=e q) (q < N) (∀ i,i < 2->q=(ordD (scR g M raw i) N).getD 0 0))->B.StaysIn h'->St N h'->R (.ok (.ret v)) {s with heap:=h',toks:=tk})->
   (∀ j q H h' tk ex t,A5 (j < N) (Fst raw j) (raw j≠.thorn) ((raw j).t≠(raw 0).t) (q < j)->(∀ i,i < 2->q=(ordD (scR g M raw i) j).getD 0 0)->B.StaysIn H->St (j+1) H->Heap.MadeExc H h' ex "TypeError" [.str (wds (if g then ">" else "<") (raw j).kd (raw q).kd) t]->R (.error (.ref ex)) {s with heap:=h',toks:=tk})->
   (∀ j ex h' tk b2,j < N->Fst raw j->raw j=.thorn->(fb B outer).StaysIn b2->St (j+1) b2->yQa outer B s.heap->yQs "ValueError" b2 outer B (·=thW j) ex h'->R (.error (.ref ex)) {s with heap:=h',toks:=tk})->
   codeAny (model prog w) A (.builtin (mmL g) ⟨[.ref IT,kv,.ref BS],[(Str.ofString "default",d)]⟩) R s:=
 eps (P:=U17 K_loop_mm3.zP) K_loop_mm3.zh (A,(start default).1,IT,BS,d,B,raw,e,rv,outer,M,Ms,St,Mid,R,N,kv) g hh hff hMs hMf hBS hBM lS lM hv hnext hend hway
theorem yAF (g:Bool) (x k d:Value):checkBuiltinCall (mm g) ⟨[x],[(Str.ofString "default",d),(Str.ofString "key",k)]⟩=pure ():=by cases g<;>kernel_rfl
theorem yAI {g:Bool} {St Mid:Nat->Heap->Prop} {Q:VS} (hh:A.handled=none) (hff:B.FunFrames (fb B outer) outer) (hMs:∀ a∈Ms,B.get? a=none) (hMf:∀ a∈Ms,a ∉ framesOf outer) (hMh:∀ a∈Ms,a < s.heap.objs.size) (lS:yQU Ms St) (lM:yQU Ms Mid)
  (hv:yZI N raw rv) (hnext:yAN prog w A.in1 B outer IT kv N raw e Ms St Mid) (hend:yDj prog w A.in1 B IT N Ms St) (hway:yDh prog w A.in1 B outer kv N raw e rv Ms St Mid)
  (hiter:∀ (Q:VS) (E:VS),Q (.ref IT) s->wpAny (model prog w) A.in1 (pyIter (.ref IT)) Q E s) (st:B.StaysIn s.heap) (h0:St 0 s.heap)
  (hR:∀ v h' tk,Fst raw N->((N=0/\v=d)\/∃ q,A3 (v=e q) (q < N) (∀ i,i < 2->q=(ordD (scR g M raw i) N).getD 0 0))->B.StaysIn h'->St N h'->Q v {s with heap:=h',toks:=tk})
  (hT:∀ j q H h' tk ex t,A5 (j < N) (Fst raw j) (raw j≠.thorn) ((raw j).t≠(raw 0).t) (q < j)->(∀ i,i < 2->q=(ordD (scR g M raw i) j).getD 0 0)->B.StaysIn H->St (j+1) H->Heap.MadeExc H h' ex "TypeError" [.str (wds (if g then ">" else "<") (raw j).kd (raw q).kd) t]->E (.ref ex) {s with heap:=h',toks:=tk})
  (hV:∀ j ex h' tk b2,j < N->Fst raw j->raw j=.thorn->(fb B outer).StaysIn b2->St (j+1) b2->yQs "ValueError" b2 outer B (·=thW j) ex h'->E (.ref ex) {s with heap:=h',toks:=tk}):
  wpAny (model prog w) A (call (.builtin (mm g)) [.ref IT] [(Str.ofString "default",d),(Str.ofString "key",kv)]) Q E s:=by
 have hb:Builtin.Builtins.bindParams (mm g) ["key","default"] 0 ⟨[],[(Str.ofString "default",d),(Str.ofString "key",kv)]⟩=pure [some kv,some d]:=by cases g<;>first | rfl | kernel_rfl
 have hc:=yAF g (.ref IT) kv d
 cases g
 refine wpAny_call (codeAny_call_builtin F.plain_min F.entry_min ?_)
 refine wN hc ?_
 show wpAny _ A.in1 (Builtin.Builtins.bindParams "min" ["key","default"] 0 ⟨[],[(Str.ofString "default",d),(Str.ofString "key",kv)]⟩ >>= _) _ _ s
 rotate_left
 refine wpAny_call (codeAny_call_builtin F.plain_max F.entry_max ?_)
 refine wN hc ?_
 show wpAny _ A.in1 (Builtin.Builtins.bindParams "max" ["key","default"] 0 ⟨[],[(Str.ofString "default",d),(Str.ofString "key",kv)]⟩ >>= _) _ _ s
 all_goals (
 refine qA (wN hb ?_)
 refine qA (qI ?_)
 refine qA (hiter _ _ ?_)
 refine qA (wpAny_newObj_type ?_)
 first | rw [show (toString "max"++toString ".loop":String)="max.loop" by decide] | rw [show (toString "min"++toString ".loop":String)="min.loop" by decide]
 refine qI ⟨plainId_quiet (by first | exact F.plain_max_loop | exact F.plain_min_loop) _,yAr (e:=e) (rv:=rv) (M:=M) hh hff hMs hMf (Heap.StaysIn.fresh st) (fun q=>absurd (hMh _ q) (lt_irrefl _)) lS lM hv hnext hend hway N 0 _ 0 #[] rfl (vZ _) (fun x o q=>qS _ (st x o q)) (lS _ _ _ h0 fun a _ o z=>qS _ z) (qX _ rfl) (fun i hi=>absurd hi (Nat.not_lt_zero _)) (.inl ⟨rfl,rfl⟩) (fun v h' tk q1 q2 q3 q4=>hR v h' tk q1 q2 q3 q4) (fun j q H h' tk ex t q1 q2 q3 q4 q5=>hT j q H h' tk ex t q1 q2 q3 q4 q5) fun j ex h' tk b2 q1 q2 q3 q4 q5 _ q7=>hV j ex h' tk b2 q1 q2 q3 q4 q5 q7⟩)
end
theorem yVV:Manifest.owners.lookup (String.ofList ['p','a','m'].reverse)=some Manifest.sig_map:=by kernel_rfl
theorem yQq:Slot "map" "__next__" "map.__next__":=
 .of (owner:="map") (n:="__next__") (by rw [typeLookup_type,builtinLookup_eq_fast];kernel_rfl) (by decide +kernel) (by decide +kernel) (by decide +kernel)
  (by first | exact .inl (by decide +kernel) | exact .inr (by decide +kernel)) (by rw [isSubtype_type];kernel_rfl)
theorem yJa:entryFor table "map.__next__"=some Builtin.«map.__next__»:=entryFor_of_tree (by kernel_rfl)
theorem args_map_next_1 (a:Value):argsOk "map.__next__" ⟨[a],[]⟩:=by
 unfold argsOk;rw [signature?_of (id:="map.__next__") (n:=['_','_','t','x','e','n','_','_']) (o:=['p','a','m']) (by kernel_rfl) yVV];kernel_rfl
theorem yJj:Slot "map" "__iter__" "map.__iter__":=
 .of (owner:="map") (n:="__iter__") (by rw [typeLookup_type,builtinLookup_eq_fast];kernel_rfl) (by decide +kernel) (by decide +kernel) (by decide +kernel)
  (by first | exact .inl (by decide +kernel) | exact .inr (by decide +kernel)) (by rw [isSubtype_type];kernel_rfl)
theorem args_map_iter_1 (a:Value):argsOk "map.__iter__" ⟨[a],[]⟩:=by
 unfold argsOk;rw [signature?_of (id:="map.__iter__") (n:=['_','_','r','e','t','i','_','_']) (o:=['p','a','m']) (by kernel_rfl) yVV];kernel_rfl
theorem yVk:entryFor table "map.__iter__"=some Builtin.«dict_keyiterator.__iter__»:=
 entryFor_alias (id':="dict_keyiterator.__iter__") (by kernel_rfl) (by first | rfl | decide +kernel | (unfold String.splitOn;simp +decide [String.splitOnAux])) (by decide +kernel) (by kernel_rfl)
theorem yYL:mroOf (.type "map")=pure [.type "map",.type "object"]:=by rw [mroOf_type];kernel_rfl
theorem yVj:typeLookup (.type "map") "__new__"=pure (some (.builtin "map.__new__")):=by rw [typeLookup_type,builtinLookup_eq_fast];kernel_rfl
theorem yVB:Slot "map" "__init__" "object.__init__":=
 .of (owner:="object") (n:="__init__") (by rw [typeLookup_type,builtinLookup_eq_fast];kernel_rfl) (by decide +kernel) (by decide +kernel) (by decide +kernel)
  (by first | exact .inl (by decide +kernel) | exact .inr (by decide +kernel)) (by rw [isSubtype_type];kernel_rfl)
theorem yXY:TypeCalled "map" "map.__new__" "object.__init__":=
 ⟨by decide +kernel,by decide +kernel,⟨_,_,yYL⟩,madeBy_type yYL yVj (by decide +kernel),by decide +kernel,by rw [isSubtype_type];kernel_rfl,yVB⟩
theorem typeCall_map_2 (a b:Value):checkTypeCall "map" ⟨[a,b],[]⟩=pure ():=by kernel_rfl
theorem newCall_map_2 (a b:Value):checkBuiltinCall "map.__new__" ⟨[.type "map",a,b],[]⟩=pure ():=by kernel_rfl
theorem yVI:entryFor table "map.__new__"=some Builtin.«map.__new__»:=entryFor_of_tree (by kernel_rfl)
theorem yBk:isSubtype (.type "map") (.type "map")=pure true:=by rw [isSubtype_type];kernel_rfl
noncomputable def mapObj (TI fq:Addr):Obj:={ cls:=.type "map",data:=.fields #[.ref TI,.ref fq] }
noncomputable def oneObj (x:Value):Obj:={ cls:=.type "tuple",data:=.seq #[x] }
section
variable {A:Around} {E:VS} {s:Shared}
theorem yXG {prog:Program} {w:World} {z TI fq:Addr} {Q:VS} (hz:s.heap.get? z=some (mapObj TI fq)) (h:Q (.ref z) s):wpAny (model prog w) A (pyIter (.ref z)) Q E s:=by
 have hT:s.TypeIs (.ref z) "map":=⟨_,hz,rfl⟩
 refine wpAny_pyIter_slot hT yJj (vU yJj hT yVk ?_ (args_map_iter_1 _))
 show wpAny _ _ (ret (.ref z)) _ _ s
 exact qI ⟨_,rfl,"map",_,hT,yQq.lookup,h⟩
theorem meets_map_rg (R fq:Addr) (a b c:Int) (t u v:Tok):
  Meets (Builtin.«map.__new__» ⟨[.type "map",.ref fq,.ref R],[]⟩) (fun _ P s=>IsRange s.heap R a b c t u v/\
   P (.ok (.ret (.ref (s.heap.objs.size+2)))) {s with heap:=((s.heap.push (rgObj (rgT a b c) a (Builtin.Range.rangeSize a b c) c)).push (oneObj (.ref s.heap.objs.size))).push (mapObj (s.heap.objs.size+1) fq)}):=
 .of_wp fun prog w A R' s h=>by
  obtain ⟨hp,g,d,tk,os⟩:=s;obtain ⟨hl1,h⟩:=h
  have hsub:=yBk
  have hL1:IsRange (Shared.heap ⟨hp,g,d,tk,os⟩) R a b c t u v:=hl1
  wp_walk using yJW hL1
  refine ⟨_,rfl,?_⟩
  simpa [mapObj,oneObj,Heap.size_push] using h
theorem yAq {z TI RI fq:Addr} {T:String} {x left step:Int} {Q:Option Value->Shared->Prop} (hT:RgT T) (hz:s.heap.get? z=some (mapObj TI fq)) (hTI:s.heap.get? TI=some (oneObj (.ref RI))) (h1:s.heap.get? RI=some (rgObj T x left step)) (hleft:0 < left) (hnz:RI≠z)
  (hcall:∀ h' t,h'.get? RI=some (rgObj T (x+step) (left - 1) step)->Heap.SameBut RI s.heap h'->wpAny (model prog w) A.in1 (call (.ref fq) [.int x t]) (fun v s'=>Q (some v) s') E {s with heap:=h',toks:=s.toks+1}):
  wpAny (model prog w) A (callSpecial? (.ref z) (Str.ofString "__next__")) Q E s:=by
 have ht:s.TypeIs (.ref z) "map":=⟨_,hz,rfl⟩
 refine wpAny_callSpecial?_slot (name:=Str.ofString "__next__") ht yQq (vU yQq ht yJa ?_ (args_map_next_1 _))
 show wpAny _ _ (field (.ref z) 0 >>= _) _ _ _
 refine qA (vT hz rfl (x:=.ref TI) rfl ?_)
 refine qA (wpAny_seqItems hTI rfl ?_)
 simp only [List.forIn_toArray,forIn_cons,forIn_nil]
 refine qA (qA (qA (wpAny_holding (nextOf_rg_item hT h1 hleft fun h' h1' hs=>qI ?_))))
 refine qI ?_
 refine qA (vT (hs.extBut _ _ (vF hnz) hz) rfl (x:=.ref fq) rfl ?_)
 refine qA (wpAny_holding (qL (hcall h' _ h1' hs) (fun v s' q=>?_) fun _ _ e=>e))
 exact qA (wpAny_letGo (qI ⟨_,rfl,q⟩))
theorem yBy {z TI RI fq:Addr} {T:String} {x left step:Int} {Q:Option Value->Shared->Prop} (hh:A.handled=none) (hT:RgT T) (hz:s.heap.get? z=some (mapObj TI fq)) (hTI:s.heap.get? TI=some (oneObj (.ref RI))) (h1:s.heap.get? RI=some (rgObj T x left step)) (hleft:left<=0)
  (hE:∀ h' e,s.heap.StaysIn h'->s.heap.get? e=none->(∃ o,h'.get? e=some o/\o.cls=.type "StopIteration")->E (.ref e) {s with heap:=h'}):
  wpAny (model prog w) A (callSpecial? (.ref z) (Str.ofString "__next__")) Q E s:=by
 have ht:s.TypeIs (.ref z) "map":=⟨_,hz,rfl⟩
 refine wpAny_callSpecial?_slot (name:=Str.ofString "__next__") ht yQq (vU yQq ht yJa ?_ (args_map_next_1 _))
 show wpAny _ _ (field (.ref z) 0 >>= _) _ _ _
 refine qA (vT hz rfl (x:=.ref TI) rfl ?_)
 refine qA (wpAny_seqItems hTI rfl ?_)
 simp only [List.forIn_toArray,forIn_cons,forIn_nil]
 exact qA (qA (qA (wpAny_holding (nextOf_rg_end hT hh h1 hleft hE))))
theorem yWZ {R fq:Addr} {a b c:Int} {t u v:Tok} {Q:VS} (hR:IsRange s.heap R a b c t u v)
  (h:∀ h' z TI RI,A6 (RI≠z) (TI≠z) (RI≠TI) (h'.get? z=some (mapObj TI fq)) (h'.get? TI=some (oneObj (.ref RI))) (h'.get? RI=some (rgObj (rgT a b c) a (Builtin.Range.rangeSize a b c) c))->A4 (s.heap.get? z=none) (s.heap.get? TI=none) (s.heap.get? RI=none) (s.heap.StaysIn h')->Q (.ref z) {s with heap:=h'}):
  wpAny (model prog w) A (call (.type "map") [.ref fq,.ref R]) Q E s:=by
 refine callType_new yXY (by decide) (typeCall_map_2 _ _) (newCall_map_2 _ _) (fun obj=>F.args_object_init_3 obj _ _) yVI
  (meets_map_rg R fq a b c t u v) ⟨hR,?_⟩
 have z1:(s.heap.push (rgObj (rgT a b c) a (Builtin.Range.rangeSize a b c) c)).objs.size=s.heap.objs.size+1:=Heap.size_push ..
 have z2:((s.heap.push (rgObj (rgT a b c) a (Builtin.Range.rangeSize a b c) c)).push (oneObj (.ref s.heap.objs.size))).objs.size=s.heap.objs.size+2:=by rw [Heap.size_push,z1]
 have g3:(((s.heap.push (rgObj (rgT a b c) a (Builtin.Range.rangeSize a b c) c)).push (oneObj (.ref s.heap.objs.size))).push (mapObj (s.heap.objs.size+1) fq)).get? (s.heap.objs.size+2)=some (mapObj (s.heap.objs.size+1) fq):=by rw [<- z2];exact qX _ rfl
 have g2:(((s.heap.push (rgObj (rgT a b c) a (Builtin.Range.rangeSize a b c) c)).push (oneObj (.ref s.heap.objs.size))).push (mapObj (s.heap.objs.size+1) fq)).get? (s.heap.objs.size+1)=some (oneObj (.ref s.heap.objs.size)):=qS _ (by rw [<- z1];exact qX _ rfl)
 have g1:(((s.heap.push (rgObj (rgT a b c) a (Builtin.Range.rangeSize a b c) c)).push (oneObj (.ref s.heap.objs.size))).push (mapObj (s.heap.objs.size+1) fq)).get? s.heap.objs.size=some (rgObj (rgT a b c) a (Builtin.Range.rangeSize a b c) c):=qS _ (qS _ (qX _ rfl))
 refine ⟨⟨_,g3,rfl⟩,h _ _ _ _ ⟨vB (Nat.lt_add_of_pos_right (by decide)),vB (lt_succ_self _),vB (lt_succ_self _),g3,g2,g1⟩ ⟨qV (Nat.le_add_right _ _),qV (Nat.le_add_right _ _),qV (vC _),fun c o x=>qS _ (qS _ (qS _ x))⟩⟩
end
def LG (LOG:Addr) (j:Nat) (h:Heap):Prop:=∃ lo,h.get? LOG=some lo/\yQI j lo
def yWE (prog:Program) (w:World) (b:Heap) (IT:Addr) (kv:Value) (N:Nat) (raw:Nat->Rw) (e:Nat->Value) (Ms:List Addr) (St Mid:Nat->Heap->Prop):Prop:=
 ∀j (A:Around) (outer:List Env) (b':Heap) (s:Shared) (Q:Option Value->Shared->Prop) (E:VS),j < N->A.depth<=498->A.units<=790->A.handled=none->A.frames=some outer->b'.FunFrames (fb b' outer) outer->b.StaysIn b'->b'.StaysIn s.heap->b'.objs.size<=s.heap.objs.size->(∀ a∈Ms,b'.get? a=none)->St j s.heap->
  (∀ h' tk,b'.StaysIn h'->Mid j h'->Q (some (e j)) {s with heap:=h',toks:=tk})->
  (∀ ex h' tk b2,kv=.none->raw j=.thorn->(fb b' outer).StaysIn b2->St (j+1) b2->yQs "ValueError" b2 outer s.heap (·=thW j) ex h'->E (.ref ex) {s with heap:=h',toks:=tk})->
  wpAny (model prog w) A (callSpecial? (.ref IT) (Str.ofString "__next__")) Q E s
def yVM (prog:Program) (w:World) (b:Heap) (IT:Addr) (N:Nat) (Ms:List Addr) (St:Nat->Heap->Prop):Prop:=
 ∀(A:Around) (b':Heap) (s:Shared) (Q:Option Value->Shared->Prop) (E:VS),A.handled=none->b.StaysIn b'->b'.StaysIn s.heap->(∀ a∈Ms,b'.get? a=none)->St N s.heap->
  (∀ h' tk ex,b'.StaysIn h'->St N h'->(∃ o,h'.get? ex=some o/\o.cls=.type "StopIteration")->E (.ref ex) {s with heap:=h',toks:=tk})->
  wpAny (model prog w) A (callSpecial? (.ref IT) (Str.ofString "__next__")) Q E s
def yZM (prog:Program) (w:World) (b:Heap) (fq:Addr) (N:Nat) (raw:Nat->Rw) (e rv:Nat->Value) (Ms:List Addr) (St Mid:Nat->Heap->Prop):Prop:=
 ∀j (A:Around) (outer:List Env) (b':Heap) (s:Shared) (Q E:VS),j < N->A.depth<=498->A.units<=790->A.handled=none->A.frames=some outer->b'.FunFrames (fb b' outer) outer->b.StaysIn b'->b'.StaysIn s.heap->b'.objs.size<=s.heap.objs.size->(∀ a∈Ms,b'.get? a=none)->Mid j s.heap->
  (∀ h' tk,raw j≠.thorn->b'.StaysIn h'->St (j+1) h'->Q (rv j) {s with heap:=h',toks:=tk})->
  (∀ ex h' tk b2,raw j=.thorn->(fb b' outer).StaysIn b2->St (j+1) b2->yQs "ValueError" b2 outer s.heap (·=thW j) ex h'->E (.ref ex) {s with heap:=h',toks:=tk})->
  wpAny (model prog w) A (call (.ref fq) [e j]) Q E s
def yZR (prog:Program) (w:World) (b:Heap) (LOG:Addr) (N:Nat) (raw:Nat->Rw) (arg:Nat->Value->Prop) (rv:Nat->Value) (fq:Addr):Prop:=
 ∀j x (A:Around) (outer:List Env) (b':Heap) (s:Shared) (Q E:VS),j < N->arg j x->A.depth<=499->A.units<=800->A.handled=none->A.frames=some outer->b'.FunFrames (fb b' outer) outer->b.StaysIn b'->b'.StaysIn s.heap->b'.objs.size<=s.heap.objs.size->b'.get? LOG=none->LG LOG j s.heap->
  (∀ h' tk,raw j≠.thorn->b'.StaysIn h'->LG LOG (j+1) h'->Q (rv j) {s with heap:=h',toks:=tk})->
  (∀ ex h' tk b2,raw j=.thorn->(fb b' outer).StaysIn b2->LG LOG (j+1) b2->yQs "ValueError" b2 outer s.heap (·=thW j) ex h'->E (.ref ex) {s with heap:=h',toks:=tk})->
  wpAny (model prog w) A (call (.ref fq) [x]) Q E s
theorem yYi:isSubtype (.type "ValueError") (.type "StopIteration")=pure false:=by rw [isSubtype_type];kernel_rfl
section
variable {A:Around} {E:VS} {s:Shared} {b:Heap} {IT LOG LST fq RI TI:Addr} {kv:Value} {N c0:Nat} {raw:Nat->Rw} {e rv:Nat->Value} {Ms:List Addr} {outer:List Env} {B:Heap}
def StL (LST LOG IT:Addr) (N j:Nat) (h:Heap):Prop:=(h.get? IT=some (liObj LST j)\/(j=N/\h.get? IT=some (liEnd N)))/\LG LOG j h
def yCY (LST LOG IT:Addr) (j:Nat) (h:Heap):Prop:=h.get? IT=some (liObj LST (j+1))/\LG LOG j h
theorem yCI {N:Nat}:yQU [IT,LOG] (StL LST LOG IT N):=fun j h h' ⟨h1,lo,h2,h3⟩ k=>⟨h1.imp (fun z=>k _ (.head _) _ z) fun z=>⟨z.1,k _ (.head _) _ z.2⟩,lo,k _ (.tail _ (.head _)) _ h2,h3⟩
theorem yDz:yQU [IT,LOG] (yCY LST LOG IT):=fun j h h' ⟨h1,lo,h2,h3⟩ k=>⟨k _ (.head _) _ h1,lo,k _ (.tail _ (.head _)) _ h2,h3⟩
theorem yXS (hne:IT≠LOG) (hL:b.get? LST=some (listOf ((List.range N).map e).toArray c0)):yWE prog w b IT kv N raw e [IT,LOG] (StL LST LOG IT N) (yCY LST LOG IT):=by
 intro j A outer b' s Q E hj hd hu hh hfr hff st st' hsz hM hst hQ hE
 obtain ⟨h1,lo,h2,h3⟩:=hst
 have g:s.heap.get? IT=some (liObj LST j):=h1.elim id fun z=>absurd z.1 (vB hj)
 have ht:s.TypeIs (.ref IT) "list_iterator":=⟨_,g,rfl⟩
 refine wpAny_callSpecial?_slot (name:=Str.ofString "__next__") ht slot_listiter_next (vU slot_listiter_next ht entry_listiter_next
   (li_next_item g (st' _ _ (st _ _ hL)) (x:=e j) (by simp [hj]) fun h' ha hs=>⟨_,rfl,?_⟩) (args_listiter_next _))
 exact hQ h' s.toks (fun x o z=>hs.extBut x o (fun q=>by rw [q,hM _ (.head _)] at z;cases z) (st' _ _ z)) ⟨ha,lo,hs.extBut _ _ (vF hne) h2,h3⟩
theorem yXU (hne:IT≠LOG) (hL:b.get? LST=some (listOf ((List.range N).map e).toArray c0)):yVM prog w b IT N [IT,LOG] (StL LST LOG IT N):=by
 intro A b' s Q E hh st st' hM hst hE
 obtain ⟨h1,lo,h2,h3⟩:=hst
 rcases h1 with g | ⟨_,g⟩
 ·have ht:s.TypeIs (.ref IT) "list_iterator":=⟨_,g,rfl⟩
  refine wpAny_callSpecial?_slot (name:=Str.ofString "__next__") ht slot_listiter_next (vU slot_listiter_next ht entry_listiter_next
   (li_next_end hh g (st' _ _ (st _ _ hL)) (by simp) fun h' ex ha hs _ he=>?_) (args_listiter_next _))
  exact hE h' s.toks ex (fun x o z=>hs x o (fun q=>by rw [q,hM _ (.head _)] at z;cases z) (st' _ _ z)) ⟨.inr ⟨rfl,ha⟩,lo,hs _ _ (vF hne) h2,h3⟩ he
 ·have ht:s.TypeIs (.ref IT) "list_iterator":=⟨_,g,rfl⟩
  refine wpAny_callSpecial?_slot (name:=Str.ofString "__next__") ht slot_listiter_next (vU slot_listiter_next ht entry_listiter_next
   (li_next_gone hh g fun h' ex ha _ he=>?_) (args_listiter_next _))
  exact hE h' s.toks ex (fun x o z=>ha _ _ (st' _ _ z)) ⟨.inr ⟨rfl,ha _ _ g⟩,lo,ha _ _ h2,h3⟩ he
theorem yXT (hne:IT≠LOG) (hk:yZR prog w b LOG N raw (fun j x=>x=e j) rv fq):yZM prog w b fq N raw e rv [IT,LOG] (StL LST LOG IT N) (yCY LST LOG IT):=by
 intro j A outer b' s Q E hj hd hu hh hfr hff st st' hsz hM hst hQ hE
 obtain ⟨h1,h2⟩:=hst
 have hITf:IT ∉ framesOf outer:=fun q=>by obtain ⟨o,ho⟩:=yQZ hff q;rw [hM _ (.head _)] at ho;cases ho
 have st1:b'.StaysIn (hideAll s.heap [LOG]):=fun x o z=>vJ _ (st' _ _ z) fun q=>by rw [qC.mp q,hM _ (.tail _ (.head _))] at z;cases z
 have gIT:=vJ [LOG] h1 fun q=>hne (qC.mp q)
 refine hk j _ A outer (hideAll s.heap [LOG]) s Q E hj rfl (le_succ_of_le hd) (qZ hu (by decide)) hh hfr (ff_up hff st1) (fun _ _ z=>st1 _ _ (st _ _ z)) (fun _ _ z=>vL _ z) (by rw [hideAll_size];exact vC _) (vK _ (.head _)) h2 ?_ ?_
 ·intro h' tk q1 q2 q3
  exact hQ h' tk q1 (fun _ _ z=>q2 _ _ (st1 _ _ z)) ⟨.inl (q2 _ _ gIT),q3⟩
 ·intro ex h' tk b2 q1 q2 q3 q4
  exact hE ex h' tk b2 q1 (fun _ _ z=>q2 _ _ (fb_mono st1 _ _ z)) ⟨.inl (q2 _ _ (vJ _ gIT hITf)),q3⟩ q4
def StS (T:String) (LOG RI:Addr) (N j:Nat) (h:Heap):Prop:=h.get? RI=some (rgObj T (0+j * 1) ((N:Int) - j) 1)/\LG LOG j h
def yDL (T:String) (LOG RI:Addr) (N:Nat) (raw:Nat->Rw) (j:Nat) (h:Heap):Prop:=raw j≠.thorn/\StS T LOG RI N (j+1) h
theorem yBF {T:String}:yQU [RI,LOG] (StS T LOG RI N):=fun j h h' ⟨h1,lo,h2,h3⟩ k=>⟨k _ (.head _) _ h1,lo,k _ (.tail _ (.head _)) _ h2,h3⟩
theorem yDy {T:String}:yQU [RI,LOG] (yDL T LOG RI N raw):=fun j h h' ⟨h0,h1⟩ k=>⟨h0,yBF _ _ _ h1 k⟩
theorem yZk {T:String} (hT:RgT T) (hne:RI≠LOG) (hnz:RI≠IT) (hz:b.get? IT=some (mapObj TI fq)) (hTI:b.get? TI=some (oneObj (.ref RI))) (hk:yZR prog w b LOG N raw (fun j x=>∃ t,x=.int j t) rv fq):
  yWE prog w b IT .none N raw rv [RI,LOG] (StS T LOG RI N) (yDL T LOG RI N raw):=by
 intro j A outer b' s Q E hj hd hu hh hfr hff st st' hsz hM hst hQ hE
 obtain ⟨h1,lo,h2,h3⟩:=hst
 have hRf:RI ∉ framesOf outer:=fun q=>by obtain ⟨o,ho⟩:=yQZ hff q;rw [hM _ (.head _)] at ho;cases ho
 refine yAq hT (st' _ _ (st _ _ hz)) (st' _ _ (st _ _ hTI)) h1 (Int.sub_pos_of_lt (Int.ofNat_lt.2 hj)) hnz fun h' t ha hs=>?_
 have sb:b'.StaysIn h':=fun x o z=>hs.extBut x o (fun q=>by rw [q,hM _ (.head _)] at z;cases z) (st' _ _ z)
 have st1:b'.StaysIn (hideAll h' [LOG]):=fun x o z=>vJ _ (sb _ _ z) fun q=>by rw [qC.mp q,hM _ (.tail _ (.head _))] at z;cases z
 have ha':h'.get? RI=some (rgObj T (0+((j+1:Nat):Int) * 1) ((N:Int) - ((j+1:Nat):Int)) 1):=by
  rw [ha,Int.sub_sub,Int.mul_one,Int.mul_one,Int.add_assoc];rfl
 have gRI:=vJ [LOG] ha' fun q=>hne (qC.mp q)
 refine hk j _ A.in1 outer (hideAll h' [LOG]) {s with heap:=h',toks:=s.toks+1} _ _ hj ⟨t,by rw [Int.zero_add,Int.mul_one]⟩ (le_succ_of_le hd) (qZ (succ_le_succ hu) (by decide)) hh hfr (ff_up hff st1) (fun _ _ z=>st1 _ _ (st _ _ z)) (fun _ _ z=>vL _ z) (by rw [hideAll_size];exact vC _) (vK _ (.head _)) ⟨lo,hs.extBut _ _ (vF hne) h2,h3⟩ ?_ ?_
 ·intro h3 tk q1 q2 q3
  exact hQ h3 tk (fun _ _ z=>q2 _ _ (st1 _ _ z)) ⟨q1,q2 _ _ gRI,q3⟩
 ·intro ex h3 tk b2 q1 q2 q3 q4
  exact hE ex h3 tk b2 rfl q1 (fun _ _ z=>q2 _ _ (fb_mono st1 _ _ z)) ⟨q2 _ _ (vJ _ gRI hRf),q3⟩ (q4.from (framed_b hff st' sb))
theorem yZl {T:String} (hT:RgT T) (hz:b.get? IT=some (mapObj TI fq)) (hTI:b.get? TI=some (oneObj (.ref RI))):yVM prog w b IT N [RI,LOG] (StS T LOG RI N):=by
 intro A b' s Q E hh st st' hM hst hE
 obtain ⟨h1,lo,h2,h3⟩:=hst
 refine yBy hh hT (st' _ _ (st _ _ hz)) (st' _ _ (st _ _ hTI)) h1 (Int.le_of_eq (Int.sub_self _)) fun h' ex ha _ he=>?_
 exact hE h' s.toks ex (fun _ _ z=>ha _ _ (st' _ _ z)) ⟨ha _ _ h1,lo,ha _ _ h2,h3⟩ he
theorem nextC_of {St Mid:Nat->Heap->Prop} (hN:yWE prog w b IT kv N raw e Ms St Mid) (hd:A.depth<=498) (hu:A.units<=790) (hh:A.handled=none) (hfr:A.frames=some outer) (hff:B.FunFrames (fb B outer) outer) (hb:b.StaysIn B):yAN prog w A B outer IT kv N raw e Ms St Mid:=by
 intro j b' s Q E hj st st' hsz hM hst hQ hE
 unfold pyNext
 refine qA (wpAny_attempt (hN j A outer b' s _ _ hj hd hu hh hfr (ff_up hff st) (fun _ _ z=>st _ _ (hb _ _ z)) st' hsz hM hst (fun h' tk q1 q2=>qI (hQ h' tk q1 q2)) fun ex h' tk b2 q0 q1 q2 q3 q4=>?_))
 have f:=q4
 obtain ⟨_,_,_,⟨_,_,_,oe,_,_,_,_,g,gc,_⟩,_⟩:=f
 refine qA (wpAny_isInstance (T:="ValueError") (b:=false) ⟨oe,g,gc.1⟩ yYi ?_)
 exact wpAny_throw (hE ex h' tk b2 q0 q1 q2 q3 q4)
theorem endC_of {St:Nat->Heap->Prop} (hE:yVM prog w b IT N Ms St) (hh:A.handled=none) (hb:b.StaysIn B):yDj prog w A B IT N Ms St:=by
 intro b' s Q E st st' hM hst hQ
 unfold pyNext
 refine qA (wpAny_attempt (hE A b' s _ _ hh (fun _ _ z=>st _ _ (hb _ _ z)) st' hM hst fun h' tk ex q1 q2 q3=>?_))
 obtain ⟨o,ho,hc⟩:=q3
 refine qA (wpAny_isInstance (T:="StopIteration") (b:=true) ⟨o,ho,hc⟩ isSubtype_stop ?_)
 exact qI (hQ h' tk q1 q2)
theorem yBX {St Mid:Nat->Heap->Prop} (hk:yZM prog w b fq N raw e rv Ms St Mid) (hd:A.depth<=498) (hu:A.units<=790) (hh:A.handled=none) (hfr:A.frames=some outer) (hff:B.FunFrames (fb B outer) outer) (hb:b.StaysIn B):AskK prog w A B outer fq N raw e rv Ms St Mid:=
 fun j b' s Q E hj st st' hsz hM hst hQ hE=>hk j A outer b' s Q E hj hd hu hh hfr (ff_up hff st) (fun _ _ z=>st _ _ (hb _ _ z)) st' hsz hM hst hQ hE
end
theorem yCD {scope:Scope} {cl:List (Str×Addr)} {C:Addr} {env:Env} {x:Value}:noteFrame x (compEnvC scope cl C env)=noteFrame x env:=rfl
section
variable {T:String} {M:Model} {A:Around} {E:VS} {s:Shared} {b h h0:Heap} {Wd:Str->Prop} {env:Env} {outer:List Env} {L ex C:Addr} {oC:Obj}
theorem yQB.upd {h':Heap} (hx:yQB T b (env::outer) h0 Wd L ex h) (hK:b.get? C=some oC) (hf:C ∉ framesOf (env::outer)) (hs:Heap.SameBut C h h'):yQB T (hideAll b [C]) (env::outer) h0 Wd L ex h':=by
 obtain ⟨t,m,tk,⟨f1,f2,f3,f4⟩,f5,f6,f7,f8⟩:=hx
 obtain ⟨oe,vs,TT,oT,ts,g1,g2,g3,g4,g5,g6,g7,g8,g9⟩:=f4
 have nK:∀ x,b.get? x=none->x≠C:=fun x q z=>by rw [z,hK] at q;cases q
 have hb:∀ x,b.get? x=none->(hideAll b [C]).get? x=none:=fun x q=>by
  cases z:(hideAll b [C]).get? x with
  | none=>rfl
  | some o=>rw [vL _ z] at q;cases q
 refine ⟨t,m,tk,⟨fun x o e=>(hs.2 x fun z=>?_).trans (f1 _ _ (vL _ e)),hb _ f2,?_,oe,vs,TT,oT,ts,(hs.2 _ (nK _ f2)).trans g1,g2,g3,g4,hb _ g5,g6,(hs.2 _ (nK _ g5)).trans g7,g8,g9⟩,?_,f6,hb _ f7,fun a ha m n=>?_⟩
 ·rw [z,vK _ (.head _)] at e;cases e
 ·exact yBb (ff_base f3 fun a ha=>hb a (f3.mem ha).1) fun a ha=>hs.2 a fun z=>hf (by rw [<- z];exact ha)
 ·obtain ⟨o,n,ho,hc,hd⟩:=f5
  exact ⟨o,n,(hs.2 _ (nK _ f7)).trans ho,hc,hd⟩
 ·obtain ⟨o,es,ep,ho,r⟩:=f8 a ha m n
  exact ⟨o,es,ep,(hs.2 a fun z=>hf (by rw [<- z];exact ha)).trans ho,r⟩
theorem yZi {R:Result->Shared->Prop} {scope:Scope} {cl:List (Str×Addr)} (hfr:A.frames=some (env::outer)) (hf:env.frame=some L) (hx:yQs T b (env::outer) h0 Wd ex s.heap)
  (k:∀ h',yQB T b (env::outer) h0 Wd L ex h'->R (.error (.ref ex)) {s with heap:=h'}):notedBy M A (compEnvC scope cl C env) (fun e s'=>R (.error e) s') (.ref ex) s:=by
 obtain ⟨t,m,tk,f1,f2,f3,f4,f5⟩:=hx
 unfold notedBy
 rw [yCD]
 exact wpAny_looks_onW hfr hf f1 fun ha1 x1 x2=>k ha1 ⟨t,m,tk,x1,f2.of_slots x2,f3,f4,f5.trans (yQa.of_slots x2)⟩
theorem yYB {Q:VS} {wh:String} {cenv:Env} (hf:cenv.frame=some L) (hx:yQB T b (env::outer) h0 Wd L ex s.heap)
  (k:∀ h',yQB T b (env::outer) h0 Wd L ex h'->E (.ref ex) {s with heap:=h'}):wpAny M A (PySem.passOn wh (.ref ex) cenv:Sem Value) Q E s:=by
 obtain ⟨t,m,tk,f1,f2,f3,f4,f5⟩:=hx
 have f1':=f1
 obtain ⟨x1,x2,x3,x4⟩:=f1
 unfold PySem.passOn
 obtain ⟨oe,vs,TT,oT,ts,he,hcls,hd,h1,r⟩:=x4
 refine qA (vT he hd h1 ?_)
 rw [qM (show ¬ ((Value.ref TT == Value.none)=true) from by simp),hf]
 refine qA (set_held x1 x2 x3 ⟨oe,vs,TT,oT,ts,he,hcls,hd,h1,r⟩ fun ha1 y1 y2=>wpAny_throw (k ha1 ⟨t,m,tk,y1,f2.of_slots y2,f3,f4,f5.trans (yQa.of_slots (h:=s.heap) (h':=ha1) y2)⟩))
theorem comp_free3 {e:Expr} {scope:Scope} {pos:Pos} {newAcc first:Sem Value} {g:Comprehension} {gs:List Comprehension} {cl:List (Str×Addr)} {u:Value->Sem Unit}
  {Q:VS}
  (hcl:clausesOf e=g::gs) (hs:∀ x,foldedSetIterable g.iter env x=pure x) (hclos:closureFor scope env=pure cl)
  (hkind:scope.kind=.function) (hnames:∀ x∈scope.names,x.2=.local->scope.names.lookup x.1=some .local)
  (h:wpAny M A first (fun x sa1=>wpAny M A (pyIter x) (fun it sa2=>wpAny M A newAcc (fun acc sa3=>
   wpAny M A (newFunctionEnv scope env.globals cl [] env.qual none .none (some env)) (fun cenv sa4=>
    codeAny M A (.compStart e 0 it acc { cenv with scope:=relabel scope env }) (fun r s'=>match r with
     | .ok _=>wpAny M A (u acc) (fun _ s''=>∃ m,s''.heap.Ns cenv.locals m/\∀ h',Heap.SameBut cenv.locals s''.heap h'->Q .none { s'' with heap:=h' }) E s'
     | .error x=>∃ m,s'.heap.Ns cenv.locals m/\∀ h',Heap.SameBut cenv.locals s'.heap h'->wpAny M A (PySem.passOn "comprehension.variables-let-go" x { cenv with scope:=relabel scope env }:Sem Value) (fun O O=>False) E { s' with heap:=h' }) sa4) E sa3) E sa2) E sa1) E s):
  wpAny M A (comprehension e scope env pos newAcc false first (some u)) Q E s:=by
 unfold comprehension
 rw [hclos,hcl]
 refine qA (qL h (fun x sa1 ha1=>qA (wpAny_standAt (qA (wN (hs x) (qA (wpAny_holding (qL ha1 (fun it sa2 ha2=>
  wpAny_standIf (qA (qL ha2 (fun acc sa3 hd3=>qA (qI (qA (qL hd3 (fun cenv sa4 ha4=>?_) fun _ _ h'=>h')))) fun _ _ h'=>h')))
   fun _ _ h'=>h'))))))) fun _ _ h'=>h')
 dsimp only
 have hv:∀ x∈(scope.names.filter fun x=>(x.2 == .local || x.2 == .cell) && x.1 != (".0":Str)).reverse,x.2=.local->
   Env.kindOf { cenv with scope:=relabel scope env } x.1=some .local:=fun x hx hl=>lookup_relabel_local (hnames x (List.mem_filter.mp (List.mem_reverse.mp hx)).1 hl)
 have hv':∀ x∈(scope.names.filter fun x=>(x.2 == .local || x.2 == .cell) && x.1 != (".0":Str)).reverse.drop 1++(scope.names.filter fun x=>(x.2 == .local || x.2 == .cell) && x.1 != (".0":Str)).reverse.take 1,
   x.2=.local->Env.kindOf { cenv with scope:=relabel scope env } x.1=some .local:=fun x hx hl=>by
  rcases qF.mp hx with h1 | h1
  ·exact hv x (List.mem_of_mem_drop h1) hl
  ·exact hv x (mem_of_mem_take h1) hl
 refine wpAny_holding (qA (wpAny_attempt (wpAny_holding (wpAny_run (codeAny_mono ha4 fun r s' hr=>?_)))))
 cases r with
 | ok f=>
  refine qA (vI (qA (wpAny_holding (qL hr (fun _ s'' hr'=>?_) fun _ _ h'=>h'))))
  obtain ⟨m,hn,hr'⟩:=hr'
  exact qA (wpAny_comp_letGo (cenv:={ cenv with scope:=relabel scope env }) hkind _ s'' m hv' hn fun h' m' _ hs'=>qI (hr' h' hs'))
 | error x=>
  obtain ⟨m,hn,hr⟩:=hr
  exact qA (wpAny_holding (wpAny_comp_letGo (cenv:={ cenv with scope:=relabel scope env }) hkind _ s' m hv hn fun h' m' _ hs'=>qL (hr h' hs') (fun _ _ f=>f.elim) fun _ _ y=>y))
end
section
variable {A:Around} {E:VS} {s:Shared} {env:Env} {outer:List Env} {L:Addr}
theorem yWC {T:String} {h0:Heap} {elt target iter:Expr} {y:Str} {py:Pos} {ifs:List Expr} {scope:Scope} {cl:List (Str×Addr)} {pos spos:Pos} {Q:Flow->Shared->Prop} (hf:env.frame=some L)
  (hsw:swapsWith (.ListComp elt [⟨target,iter,ifs,0⟩] scope pos) (some (.Name y py)) spos.line env=pure true)
  (hclos:closureFor scope env=pure cl) (hcell:∀ z∈scope.names,z.2≠.cell) (hkind:scope.kind=.function)
  (hnames:∀ z∈scope.names,z.2=.local->scope.names.lookup z.1=some .local)
  (hy:env.kindOf y=some .local) (hp:(env.scope.kind == .class || (env.scope.kind == .module && env.locals != env.globals))=false)
  (h:wpAny (model prog w) A (eval iter env) (fun xv sa1=>wpAny (model prog w) A (pyIter xv) (fun it sa2=>
   ∀C D ha1 tk,sa2.heap.StaysIn ha1->sa2.heap.get? C=none->sa2.heap.get? D=none->D≠C->ha1.Ns C (fun O=>none)->ha1.get? D=some (listOf #[] 0)->
    (∀ (Q:VS) (E:VS),Q it { sa2 with heap:=ha1,toks:=tk }->wpAny (model prog w) A (pyIter it) Q E { sa2 with heap:=ha1,toks:=tk })/\
    codeAny (model prog w) A (.compLoop (.ListComp elt [⟨target,iter,ifs,0⟩] scope pos) 0 it (.ref D) (compEnvC scope cl C env)) (fun r s'=>(r=.ok .next/\X2 fun m mL=>A4 (s'.heap.Ns C m) (s'.heap.Ns env.locals mL) (C≠env.locals) (∀ h' tk,h'.Ns env.locals (fun z=>if z=y then some (.ref D) else mL z)->(∀ c o,c≠env.locals->c≠C->s'.heap.get? c=some o->h'.get? c=some o)->Q .next { s' with heap:=h',toks:=tk }))
     \/(X5 fun ex b2 m oC Wd=>A6 (r=.error (.ref ex)) (yQB T b2 (env::outer) h0 Wd L ex s'.heap) (s'.heap.Ns C m) (b2.get? C=some oC) (C ∉ framesOf (env::outer)) (∀ h',yQB T (hideAll b2 [C]) (env::outer) h0 Wd L ex h'->E (.ref ex) { s' with heap:=h' }))) { sa2 with heap:=ha1,toks:=tk }) E sa1) E s)
  (hs:∀ x,foldedSetIterable iter env x=pure x:=by intro _;rfl):
  wpAny (model prog w) A (exec (.Assign [.Name y py] (.ListComp elt [⟨target,iter,ifs,0⟩] scope pos) spos) env) Q E s:=by
 rw [exec_Assign_Name_used _ _ _ _ hsw]
 refine qA (wpAny_standAt (qA ?_))
 show wpAny _ A (do let _ <- comprehension (.ListComp elt [⟨target,iter,ifs,0⟩] scope pos) scope env _ (newList []) false (eval iter env) (some (assign (.Name y py) env))) _ _ s
 refine qA (qL (comp_free3 (u:=assign (.Name y py) env) (Q:=fun _ s'=>Q .next s') rfl hs hclos hkind hnames
  (qL h (fun xv sa1 ha1=>qL ha1 (fun it sa2 ha2=>?_) fun _ _ e=>e) fun _ _ e=>e)) (fun _ s' hq=>qI (qI hq)) fun _ _ e=>e)
 refine wpAny_newObj_type (wpAny_newFunctionEnv hcell (by intro y hy;simp at hy) (fun ha1 hns1 hsb1=>?_) hkind)
 dsimp only at hns1 hsb1 ⊢
 generalize hH2:sa2.heap.push { cls:=.type "list",dict:=none,data:=.seq ([]:List Value).toArray }=H2 at hns1 hsb1 ⊢
 have hC:H2.objs.size=sa2.heap.objs.size+1:=by rw [<- hH2,Heap.size_push]
 have hDC:sa2.heap.objs.size≠H2.objs.size:=by rw [hC];exact vB (lt_succ_self _)
 have old:sa2.heap.StaysIn ha1:=fun b o e=>hsb1.extBut b o (by rw [hC];exact vB (lt_succ_of_lt (qU e))) (qS _ (hH2 ▸ qS _ e))
 have hacc:ha1.get? sa2.heap.objs.size=some (listOf #[] 0):=hsb1.extBut _ _ hDC (qS _ (hH2 ▸ qX _ rfl))
 obtain ⟨k1,k2⟩:=ha2 H2.objs.size sa2.heap.objs.size ha1 (sa2.toks+([]:List (Str×Value)).length) old (qV (by rw [hC];exact le_succ _)) (qV (vC _)) hDC hns1 hacc
 have k3:=codeAny_mono k2 (R':=fun r s'=>match r with
     | .ok _=>wpAny (model prog w) A (assign (.Name y py) env (.ref sa2.heap.objs.size)) (fun _ s''=>∃ m,s''.heap.Ns H2.objs.size m/\∀ h',Heap.SameBut H2.objs.size s''.heap h'->Q .next { s'' with heap:=h' }) E s'
     | .error x=>∃ m,s'.heap.Ns H2.objs.size m/\∀ h',Heap.SameBut H2.objs.size s'.heap h'->wpAny (model prog w) A (PySem.passOn "comprehension.variables-let-go" x (compEnvC scope cl H2.objs.size env):Sem Value) (fun O O=>False) E { s' with heap:=h' }) fun r s' hr=>by
  rcases hr with ⟨rfl,m,mL,hm,hL,hne,hr⟩ | ⟨ex,b2,m,oC,Wd,rfl,x1,x2,x3,x4,x5⟩
  ·refine wpAny_assign_Name (wpAny_storeName_local hy hL (fun ha2 hn2 hs2=>?_) hp)
   refine ⟨m,ns_at hm fun o e=>hs2.extBut _ o hne e,fun hd3 hsa3=>?_⟩
   exact hr hd3 _ (ns_at hn2 fun o e=>hsa3.extBut _ o (vF hne) e) fun c o c1 c2 e=>hsa3.extBut _ o c2 (hs2.extBut _ o c1 e)
  ·refine ⟨m,x2,fun h' hs'=>?_⟩
   exact yYB (s:={ s' with heap:=h' }) (T:=T) (b:=hideAll b2 [H2.objs.size]) (h0:=h0) (Wd:=Wd) (env:=env) (outer:=outer) hf (x1.upd x3 x4 hs') x5
 exact codeAny_compStart_list k3 (k1 _ _ k3)
end
def yJD (Ms:List Addr) (St:Nat->Heap->Prop):Prop:=∀ j h,St j h->∀ a∈Ms,∃ o,h.get? a=some o
structure Zp (z TI TO i1 IT:Addr) (Ms:List Addr) (B:Heap):Prop where
 TOz:TO≠z
 i1z:i1≠z
 TIz:TI≠z
 TITO:TI≠TO
 TIi1:TI≠i1
 TOi1:TO≠i1
 zM:z ∉ Ms
 TOM:TO ∉ Ms
 i1M:i1 ∉ Ms
 TIM:TI ∉ Ms
 zB:B.get? z=none
 TOB:B.get? TO=none
 i1B:B.get? i1=none
 MB:∀ a∈Ms,B.get? a=none
namespace K_zip_item3
def zP (A:Around) (s:Shared) (E:VS) (z TI TO i1 IT:Addr) (Ms:List Addr) (B b:Heap) (kv:Value) (N j:Nat) (raw:Nat->Rw) (e:Nat->Value) (St Mid:Nat->Heap->Prop) (T:String) (x left step:Int) (va vb:Value) (outer:List Env) (Q:Option Value->Shared->Prop):Prop:=∀ (D:Zp z TI TO i1 IT Ms B) (hT:RgT T) (hz:s.heap.get? z=some (zipObj TI TO .none)) (hTI:s.heap.get? TI=some (pairObj (.ref i1) (.ref IT))) (hTO:s.heap.get? TO=some (pairObj va vb)) (h1:s.heap.get? i1=some (rgObj T x left step)) (hleft:0 < left) (hN:yWE prog w b IT kv N raw e Ms St Mid) (lS:yQU Ms St) (lM:yQU Ms Mid) (hj:j < N) (hd:A.depth<=498) (hu:A.units<=780) (hh:A.handled=none) (hfr:A.frames=some outer) (hff:B.FunFrames (fb B outer) outer) (hb:b.StaysIn B) (st:B.StaysIn s.heap) (hst:St j s.heap) (al:yJD Ms Mid) (hQ:∀ h' t tk (TP:Addr),A6 (h'.get? z=some (zipObj TI TO (rawInt TP))) (h'.get? TO=some (pairObj (.int x t) (e j))) (h'.get? i1=some (rgObj T (x+step) (left - 1) step)) (Mid j h') (h'.get? TP=some (pairObj (.int x t) (e j))) (s.heap.get? TP=none)->
   (∀ c o,c≠z->c≠TO->c≠i1->c ∉ Ms->s.heap.get? c=some o->h'.get? c=some o)->Q (some (.ref TP)) {s with heap:=h',toks:=tk}) (hV:∀ ex h' tk b2,kv=.none->raw j=.thorn->(∀ c o,c≠z->c≠TO->c≠i1->c ∉ Ms->c ∉ framesOf outer->s.heap.get? c=some o->b2.get? c=some o)->St (j+1) b2->yQs "ValueError" b2 outer s.heap (·=thW j) ex h'->E (.ref ex) {s with heap:=h',toks:=tk}),
  wpAny (model prog w) A (pyNext (.ref z)) Q E s
def zc:=ep (U26 zP) ⟨({},(start default).1,fun O O=>True,0,0,0,0,0,[],default,default,.none,0,0,fun O=>.thorn,fun O=>.none,fun O O=>True,fun O O=>True,"",0,0,0,.none,.none,[],fun O O=>True)⟩
def zd1:=zc.2.2.2.2.2.2.2.2
def zd2:=zd1.2.2.2.2.2.2.2.2
def zd3:=zd2.2.2.2.2.2.2.2.2
def A:=zc.1
def s:=zc.2.1
def z:=zc.2.2.2.1
def TI:=zc.2.2.2.2.1
def TO:=zc.2.2.2.2.2.1
def i1:=zc.2.2.2.2.2.2.1
def IT:=zc.2.2.2.2.2.2.2.1
def Ms:=zd1.1
def B:=zd1.2.1
def b:=zd1.2.2.1
def j:=zd1.2.2.2.2.2.1
def e:=zd1.2.2.2.2.2.2.2.1
def St:=zd2.1
def T:=zd2.2.2.1
def x:=zd2.2.2.2.1
def left:=zd2.2.2.2.2.1
def step:=zd2.2.2.2.2.2.1
def va:=zd2.2.2.2.2.2.2.1
def vb:=zd2.2.2.2.2.2.2.2.1
def outer:=zd3.1
theorem zh:zP A s zc.2.2.1 z TI TO i1 IT Ms B b zd1.2.2.2.1 zd1.2.2.2.2.1 j zd1.2.2.2.2.2.2.1 e St zd2.2.1 T x left step va vb outer zd3.2:=by
 intro D hT hz hTI hTO h1 hleft hN lS lM hj hd hu hh hfr hff hb st hst al hQ hV
 have ht:s.TypeIs (.ref z) "zip":=⟨_,hz,rfl⟩
 unfold pyNext
 refine qA (wpAny_attempt (wpAny_callSpecial?_slot (name:=Str.ofString "__next__") ht F.slot_zip_next (vU F.slot_zip_next ht F.entry_zip_next ?_ (F.args_zip_next_1 _))))
 show wpAny _ _ (field (.ref z) 2 >>= _) _ _ _
 refine qA (vT hz rfl (x:=.bool false) rfl ?_)
 show wpAny _ _ (field (.ref z) 3 >>= _) _ _ _
 refine qA (vT hz rfl (x:=.ref TI) rfl ?_)
 refine qA (wpAny_seqItems hTI rfl ?_)
 show wpAny _ _ (Builtin.SmallTypes.ownedTupleIsFree (.ref z) >>= _) _ _ _
 refine qA ?_
 unfold Builtin.SmallTypes.ownedTupleIsFree
 refine qA (vT hz rfl (x:=.none) rfl (qI ?_))
 simp only [if_true]
 refine qA (vI ?_)
 refine qA (vT hz rfl (x:=.ref TO) rfl ?_)
 refine qA (wpAny_setField_rec hz (by simp) fun ha1 hz1 hsa1=>?_)
 replace hz1:ha1.get? z=some (zipObj TI TO .ellipsis):=hz1
 refine qA ?_
 simp only [zipIdx_cons,List.zipIdx_nil,forIn_cons,forIn_nil]
 refine qA (qA (wpAny_onRaise ?_))
 show wpAny _ _ (Builtin.SmallTypes.nextOf (.ref i1) >>= _) _ _ _
 refine qA (nextOf_rg_item hT (hsa1.extBut _ _ D.i1z h1) hleft fun ha2 ha12 hs2=>qI ?_)
 have hTO2:IsPair ha2 TO va vb:=hs2.extBut _ _ D.TOi1 (hsa1.extBut _ _ D.TOz hTO)
 refine qA (wpAny_seqItems hTO2 rfl ?_)
 refine qA (wpAny_updateSeq_pair hTO2 fun hd3 hTO3 hsa3=>?_)
 replace hTO3:IsPair hd3 TO (.int x s.toks) vb:=hTO3
 refine qA (wpAny_letGo (qI ?_))
 have ka3:∀ c o,c≠z->c≠TO->c≠i1->s.heap.get? c=some o->hd3.get? c=some o:=fun c o c1 c2 c3 q=>hsa3.extBut _ _ c2 (hs2.extBut _ _ c3 (hsa1.extBut _ _ c1 q))
 have za3:hd3.get? z=some (zipObj TI TO .ellipsis):=hsa3.extBut _ _ D.TOz.symm (hs2.extBut _ _ D.i1z.symm hz1)
 have ha13:hd3.get? i1=some (rgObj T (x+step) (left - 1) step):=hsa3.extBut _ _ D.TOi1.symm ha12
 have nB:∀ {c o},B.get? c=some o->c≠z/\c≠TO/\c≠i1/\c ∉ Ms:=fun q=>⟨fun r=>by (rw [r,D.zB] at q;cases q),fun r=>by (rw [r,D.TOB] at q;cases q),fun r=>by (rw [r,D.i1B] at q;cases q),fun r=>by (rw [D.MB _ r] at q;cases q)⟩
 have sta3:B.StaysIn hd3:=fun c o q=>ka3 c o (nB q).1 (nB q).2.1 (nB q).2.2.1 (st _ _ q)
 have sM:B.StaysIn (hideAll hd3 Ms):=fun c o q=>vJ _ (sta3 _ _ q) (nB q).2.2.2
 have hsta3:St j hd3:=lS _ _ _ hst fun a ha o q=>ka3 a o (fun r=>D.zM (by rw [<- r];exact ha)) (fun r=>D.TOM (by rw [<- r];exact ha)) (fun r=>D.i1M (by rw [<- r];exact ha)) q
 have fz:z ∉ framesOf outer:=fun q=>by obtain ⟨o,ho⟩:=yQZ hff q;rw [D.zB] at ho;cases ho
 refine qA (qA (wpAny_onRaise ?_))
 show wpAny _ _ (Builtin.SmallTypes.nextOf (.ref IT) >>= _) _ _ _
 refine qA ?_
 unfold Builtin.SmallTypes.nextOf
 refine qA (hN j A.in1 outer (hideAll hd3 Ms) {s with heap:=hd3,toks:=s.toks+1} _ _ hj hd (qZ (succ_le_succ hu) (by decide)) hh hfr (ff_up hff sM) (fun _ _ q=>sM _ _ (hb _ _ q)) (fun _ _ q=>vL _ q) (by rw [hideAll_size];exact vC _) (fun a ha=>vK _ ha) hsta3 (fun ha4 tka4 st4 hma4=>qI (qI ?_)) fun ex ha4 tka4 b2 q0 q1 q2 q3 q4=>?_)
 ·have up4:∀ c o,c ∉ Ms->hd3.get? c=some o->ha4.get? c=some o:=fun c o c1 q=>st4 _ _ (vJ _ q c1)
  have hTO4:IsPair ha4 TO (.int x s.toks) vb:=up4 _ _ D.TOM hTO3
  refine qA (wpAny_seqItems hTO4 rfl ?_)
  refine qA (wpAny_updateSeq_pair hTO4 fun ha5 hTO5 hs5=>?_)
  replace hTO5:IsPair ha5 TO (.int x s.toks) (e j):=hTO5
  refine qA (wpAny_letGo (qI (qI ?_)))
  refine qA (wpAny_seqItems hTO5 rfl ?_)
  refine qA (wpAny_newTuple ?_)
  have hz5:IsZip ha5 z TI TO .ellipsis:=hs5.extBut _ _ D.TOz.symm (up4 _ _ D.zM za3)
  have hzlt:z < ha5.objs.size:=qU hz5
  show wpAny _ _ (Builtin.SmallTypes.ownedTupleHandOut (.ref z) (.ref ha5.objs.size) >>= _) _ _ _
  refine qA ?_
  unfold Builtin.SmallTypes.ownedTupleHandOut
  have hz6:IsZip (ha5.push { cls:=.type "tuple",data:=.seq #[.int x s.toks,e j] }) z TI TO .ellipsis:=qS _ hz5
  refine qA (wpAny_setField_rec hz6 (by simp) fun ha7 hz7 hs7=>?_)
  replace hz7:IsZip ha7 z TI TO (rawInt ha5.objs.size):=hz7
  refine wpAny_setField_rec hz7 (by simp) fun ha8 hza8 hs8=>?_
  replace hza8:IsZip ha8 z TI TO (rawInt ha5.objs.size):=hza8
  have up:∀ c o,c≠z->ha5.get? c=some o->ha8.get? c=some o:=fun c o c1 q=>hs8.extBut _ _ c1 (hs7.extBut _ _ c1 (qS _ q))
  have hTa8:ha8.get? ha5.objs.size=some (pairObj (.int x s.toks) (e j)):=hs8.extBut _ _ (ne_of_gt hzlt) (hs7.extBut _ _ (ne_of_gt hzlt) (qX _ rfl))
  have all5:∀ c o,c≠TO->ha4.get? c=some o->ha5.get? c=some o:=fun c o c1 q=>hs5.extBut _ _ c1 q
  refine qI ⟨_,rfl,qI (hQ ha8 _ _ ha5.objs.size ⟨hza8,up _ _ D.TOz hTO5,up _ _ D.i1z (all5 _ _ D.TOi1.symm (up4 _ _ D.i1M ha13)),lM _ _ _ hma4 fun a ha o q=>up _ _ (fun r=>D.zM (by rw [<- r];exact ha)) (all5 _ _ (fun r=>D.TOM (by rw [<- r];exact ha)) q),hTa8,?_⟩ fun c o c1 c2 c3 c4 q=>up c o c1 (all5 _ _ c2 (up4 _ _ c4 (ka3 c o c1 c2 c3 q))))⟩
  cases q:s.heap.get? ha5.objs.size with
  | none=>rfl
  | some o=>
   have no:ha5.get? ha5.objs.size=none:=qV (vC _)
   have ha15:=all5 _ _ D.TOi1.symm (up4 _ _ D.i1M ha13)
   by_cases c1:ha5.objs.size=z
   ·rw [c1,hz5] at no;cases no
   by_cases c2:ha5.objs.size=TO
   ·rw [c2,hTO5] at no;cases no
   by_cases c3:ha5.objs.size=i1
   ·rw [c3,ha15] at no;cases no
   by_cases c4:ha5.objs.size∈Ms
   ·obtain ⟨o',ho'⟩:=al _ _ hma4 _ c4
    rw [all5 _ _ c2 ho'] at no;cases no
   ·rw [all5 _ _ c2 (up4 _ _ c4 (ka3 _ o c1 c2 c3 q))] at no;cases no
 ·have g3:∀ c o,c ∉ Ms->c ∉ framesOf outer->hd3.get? c=some o->b2.get? c=some o:=fun c o c1 c2 q=>q2 _ _ (vJ _ (vJ _ q c1) c2)
  have zb:=g3 _ _ D.zM fz za3
  refine wpAny_setField_rec (q4.at _ _ zb) (by simp) fun ha5 _ hs5=>?_
  have f:=q4
  obtain ⟨_,_,_,⟨_,nex,_,oe,_,_,_,_,g,gc,_⟩,_⟩:=f
  have exz:ex≠z:=fun r=>by rw [r,zb] at nex;cases nex
  refine qA (wpAny_isInstance (T:="ValueError") (b:=false) ⟨oe,hs5.extBut _ _ exz g,gc.1⟩ yYi ?_)
  refine wpAny_throw (hV ex ha5 tka4 (hideAll b2 [z]) q0 q1 (fun c o c1 c2 c3 c4 c5 q=>vJ _ (g3 c o c4 c5 (ka3 c o c1 c2 c3 q)) fun r=>c1 (qC.mp r)) (lS _ _ _ q3 fun a ha o q=>vJ _ q fun r=>D.zM (by rw [<- qC.mp r];exact ha)) ((q4.upd zb fz hs5).from (framed_b hff st sta3)))
end K_zip_item3
theorem yYf {A s E z TI TO i1 IT Ms B b kv N j raw e St Mid T x left step va vb outer Q}:K_zip_item3.zP A s E z TI TO i1 IT Ms B b kv N j raw e St Mid T x left step va vb outer Q:=eps (P:=U26 K_zip_item3.zP) K_zip_item3.zh (A,s,E,z,TI,TO,i1,IT,Ms,B,b,kv,N,j,raw,e,St,Mid,T,x,left,step,va,vb,outer,Q)
namespace K_zip_end3
def zP (A:Around) (s:Shared) (E:VS) (z TI TO i1 IT:Addr) (Ms:List Addr) (B b:Heap) (N:Nat) (St:Nat->Heap->Prop) (T:String) (x left step:Int) (va vb:Value) (Q:Option Value->Shared->Prop):Prop:=∀ (j:Nat) (D:Zp z TI TO i1 IT Ms B) (hT:RgT T) (hz:s.heap.get? z=some (zipObj TI TO .none)) (hTI:s.heap.get? TI=some (pairObj (.ref i1) (.ref IT))) (hTO:s.heap.get? TO=some (pairObj va vb)) (h1:s.heap.get? i1=some (rgObj T x left step)) (hE:yVM prog w b IT N Ms St) (lS:yQU Ms St) (hend:left<=0\/j=N) (hh:A.handled=none) (hb:b.StaysIn B) (st:B.StaysIn s.heap) (hst:St j s.heap) (hQ:∀ h' tk,St j h'->(∀ c o,c≠z->c≠TO->c≠i1->c ∉ Ms->s.heap.get? c=some o->h'.get? c=some o)->Q none {s with heap:=h',toks:=tk}),
  wpAny (model prog w) A (pyNext (.ref z)) Q E s
def zc:=ep (U20 zP) ⟨({},(start default).1,fun O O=>True,0,0,0,0,0,[],default,default,0,fun O O=>True,"",0,0,0,.none,.none,fun O O=>True)⟩
def zd1:=zc.2.2.2.2.2.2.2.2
def zd2:=zd1.2.2.2.2.2.2.2.2
def A:=zc.1
def s:=zc.2.1
def z:=zc.2.2.2.1
def TI:=zc.2.2.2.2.1
def TO:=zc.2.2.2.2.2.1
def i1:=zc.2.2.2.2.2.2.1
def IT:=zc.2.2.2.2.2.2.2.1
def Ms:=zd1.1
def B:=zd1.2.1
def b:=zd1.2.2.1
def N:=zd1.2.2.2.1
def T:=zd1.2.2.2.2.2.1
def x:=zd1.2.2.2.2.2.2.1
def left:=zd1.2.2.2.2.2.2.2.1
def va:=zd2.2.1
def vb:=zd2.2.2.1
theorem zh:zP A s zc.2.2.1 z TI TO i1 IT Ms B b N zd1.2.2.2.2.1 T x left zd2.1 va vb zd2.2.2.2:=by
 intro j D hT hz hTI hTO h1 hE lS hend hh hb st hst hQ
 have ht:s.TypeIs (.ref z) "zip":=⟨_,hz,rfl⟩
 unfold pyNext
 refine qA (wpAny_attempt (wpAny_callSpecial?_slot (name:=Str.ofString "__next__") ht F.slot_zip_next (vU F.slot_zip_next ht F.entry_zip_next ?_ (F.args_zip_next_1 _))))
 show wpAny _ _ (field (.ref z) 2 >>= _) _ _ _
 refine qA (vT hz rfl (x:=.bool false) rfl ?_)
 show wpAny _ _ (field (.ref z) 3 >>= _) _ _ _
 refine qA (vT hz rfl (x:=.ref TI) rfl ?_)
 refine qA (wpAny_seqItems hTI rfl ?_)
 show wpAny _ _ (Builtin.SmallTypes.ownedTupleIsFree (.ref z) >>= _) _ _ _
 refine qA ?_
 unfold Builtin.SmallTypes.ownedTupleIsFree
 refine qA (vT hz rfl (x:=.none) rfl (qI ?_))
 simp only [if_true]
 refine qA (vI ?_)
 refine qA (vT hz rfl (x:=.ref TO) rfl ?_)
 refine qA (wpAny_setField_rec hz (by simp) fun ha1 hz1 hsa1=>?_)
 replace hz1:ha1.get? z=some (zipObj TI TO .ellipsis):=hz1
 refine qA ?_
 simp only [zipIdx_cons,List.zipIdx_nil,forIn_cons,forIn_nil]
 refine qA (qA (wpAny_onRaise ?_))
 have aM:∀ {a},a∈Ms->a≠z/\a≠TO/\a≠i1:=fun ha=>⟨fun r=>D.zM (by rw [<- r];exact ha),fun r=>D.TOM (by rw [<- r];exact ha),fun r=>D.i1M (by rw [<- r];exact ha)⟩
 show wpAny _ _ (Builtin.SmallTypes.nextOf (.ref i1) >>= _) _ _ _
 by_cases hleft:left<=0
 ·refine qA (nextOf_rg_end hT hh (hsa1.extBut _ _ D.i1z h1) hleft fun ha2 e hs2 hen he=>?_)
  obtain ⟨oe,hoe,hce⟩:=he
  have hz2:IsZip ha2 z TI TO .ellipsis:=hs2 _ _ hz1
  have hez:e≠z:=fun x=>by subst x;rw [hz2] at hoe;cases hoe;simp at hce
  refine wpAny_setField_rec hz2 (by simp) fun hd3 _ hsa3=>?_
  refine qA (wpAny_isInstance (T:="StopIteration") (b:=true) ⟨oe,hsa3.extBut _ _ hez hoe,hce⟩ isSubtype_stop ?_)
  exact qI (hQ hd3 _ (lS _ _ _ hst fun a ha o q=>hsa3.extBut _ _ (aM ha).1 (hs2 _ _ (hsa1.extBut _ _ (aM ha).1 q))) fun c o c1 _ _ _ x=>hsa3.extBut _ _ c1 (hs2 _ _ (hsa1.extBut _ _ c1 x)))
 ·obtain rfl:j=N:=hend.resolve_left hleft
  refine qA (nextOf_rg_item hT (hsa1.extBut _ _ D.i1z h1) (Int.not_le.mp hleft) fun ha2 ha12 hs2=>qI ?_)
  have hTO2:IsPair ha2 TO va vb:=hs2.extBut _ _ D.TOi1 (hsa1.extBut _ _ D.TOz hTO)
  refine qA (wpAny_seqItems hTO2 rfl ?_)
  refine qA (wpAny_updateSeq_pair hTO2 fun hd3 hTO3 hsa3=>?_)
  refine qA (wpAny_letGo (qI ?_))
  have ka3:∀ c o,c≠z->c≠TO->c≠i1->s.heap.get? c=some o->hd3.get? c=some o:=fun c o c1 c2 c3 q=>hsa3.extBut _ _ c2 (hs2.extBut _ _ c3 (hsa1.extBut _ _ c1 q))
  have za3:hd3.get? z=some (zipObj TI TO .ellipsis):=hsa3.extBut _ _ D.TOz.symm (hs2.extBut _ _ D.i1z.symm hz1)
  have nB:∀ {c o},B.get? c=some o->c≠z/\c≠TO/\c≠i1/\c ∉ Ms:=fun q=>⟨fun r=>by (rw [r,D.zB] at q;cases q),fun r=>by (rw [r,D.TOB] at q;cases q),fun r=>by (rw [r,D.i1B] at q;cases q),fun r=>by (rw [D.MB _ r] at q;cases q)⟩
  have sM:B.StaysIn (hideAll hd3 Ms):=fun c o q=>vJ _ (ka3 c o (nB q).1 (nB q).2.1 (nB q).2.2.1 (st _ _ q)) (nB q).2.2.2
  refine qA (qA (wpAny_onRaise ?_))
  show wpAny _ _ (Builtin.SmallTypes.nextOf (.ref IT) >>= _) _ _ _
  refine qA ?_
  unfold Builtin.SmallTypes.nextOf
  refine qA (hE A.in1 (hideAll hd3 Ms) {s with heap:=hd3,toks:=s.toks+1} _ _ hh (fun _ _ q=>sM _ _ (hb _ _ q)) (fun _ _ q=>vL _ q) (fun a ha=>vK _ ha) (lS _ _ _ hst fun a ha o q=>ka3 a o (aM ha).1 (aM ha).2.1 (aM ha).2.2 q) fun ha4 tka4 ex s4 hst4 he=>?_)
  obtain ⟨oe,hoe,hce⟩:=he
  have up4:∀ c o,c ∉ Ms->hd3.get? c=some o->ha4.get? c=some o:=fun c o c1 q=>s4 _ _ (vJ _ q c1)
  have hz4:IsZip ha4 z TI TO .ellipsis:=up4 _ _ D.zM za3
  have hez:ex≠z:=fun x=>by subst x;rw [hz4] at hoe;cases hoe;simp at hce
  refine wpAny_setField_rec hz4 (by simp) fun ha5 _ hs5=>?_
  refine qA (wpAny_isInstance (T:="StopIteration") (b:=true) ⟨oe,hs5.extBut _ _ hez hoe,hce⟩ isSubtype_stop ?_)
  exact qI (hQ ha5 _ (lS _ _ _ hst4 fun a ha o q=>hs5.extBut _ _ (aM ha).1 q) fun c o c1 c2 c3 c4 x=>hs5.extBut _ _ c1 (up4 _ _ c4 (ka3 c o c1 c2 c3 x)))
end K_zip_end3
section
variable {A:Around} {s:Shared} {E:VS} {z TI TO i1 IT:Addr} {Ms:List Addr} {B b:Heap} {kv:Value} {N j:Nat} {raw:Nat->Rw} {e:Nat->Value} {St Mid:Nat->Heap->Prop} {T:String} {x left step:Int} {va vb:Value} {outer:List Env} {Q:Option Value->Shared->Prop}
theorem yZU (D:Zp z TI TO i1 IT Ms B) (hT:RgT T) (hz:s.heap.get? z=some (zipObj TI TO .none)) (hTI:s.heap.get? TI=some (pairObj (.ref i1) (.ref IT))) (hTO:s.heap.get? TO=some (pairObj va vb)) (h1:s.heap.get? i1=some (rgObj T x left step))
  (hE:yVM prog w b IT N Ms St) (lS:yQU Ms St) (hend:left<=0\/j=N) (hh:A.handled=none) (hb:b.StaysIn B) (st:B.StaysIn s.heap) (hst:St j s.heap)
  (hQ:∀ h' tk,St j h'->(∀ c o,c≠z->c≠TO->c≠i1->c ∉ Ms->s.heap.get? c=some o->h'.get? c=some o)->Q none {s with heap:=h',toks:=tk}):
  wpAny (model prog w) A (pyNext (.ref z)) Q E s:=
 eps (P:=U20 K_zip_end3.zP) K_zip_end3.zh (A,s,E,z,TI,TO,i1,IT,Ms,B,b,N,St,T,x,left,step,va,vb,Q) j D hT hz hTI hTO h1 hE lS hend hh hb st hst hQ
end
theorem yQB.at {T:String} {b:Heap} {l:List Env} {h0 h:Heap} {Wd:Str->Prop} {L ex:Addr} (hx:yQB T b l h0 Wd L ex h):b.StaysIn h:=by
 obtain ⟨_,_,_,⟨sb,_⟩,_⟩:=hx
 exact sb
namespace K_zip_loop3
def zP (A:Around) (s:Shared) (z TI TO i1 IT C D L:Addr) (Ms:List Addr) (BL b:Heap) (kv:Value) (N n left:Nat) (raw:Nat->Rw) (e:Nat->Value) (St Mid:Nat->Heap->Prop) (T:String) (a0 step:Int) (va vb:Value) (env:Env) (outer:List Env) (R:Result->Shared->Prop) (elt iter:Expr) (xi xe:Str) (p1 p2 tp:Pos) (scope:Scope) (cl:List (Str×Addr)) (pos:Pos) (ma0:Str->Option Value) (c0:Nat) (YP:Nat->Value->List (Addr×Obj)->Prop):Prop:=∀ (kk:_) (Z:Zp z TI TO i1 IT Ms BL) (hT:RgT T) (hTI:BL.get? TI=some (pairObj (.ref i1) (.ref IT))) (hC0:A7 (C≠z) (C≠TO) (C≠i1) (C ∉ Ms) (BL.get? C=none) (D≠C) (D ∉ Ms)) (hD0:A4 (D≠z) (D≠TO) (D≠i1) (BL.get? D=none)) (hn:n=min left N) (hn1:N<=1000) (hkind:scope.kind=.function) (hxi:scope.names.lookup xi=some .local) (hxe:scope.names.lookup xe=some .local) (hne:xi≠xe) (hN:yWE prog w b IT kv N raw e Ms St Mid) (hE:yVM prog w b IT N Ms St) (lS:yQU Ms St) (lM:yQU Ms Mid) (al:yJD Ms Mid) (hd:A.depth<=498) (hu:A.units<=780) (hh:A.handled=none) (hfr:A.frames=some (env::outer)) (hf:env.frame=some L) (hff:BL.FunFrames (fb BL (env::outer)) (env::outer)) (hb:b.StaysIn BL) (hmax:∀ c o,c ∉ Ms->c≠z->c≠TO->c≠i1->c≠C->c≠D->s.heap.get? c=some o->BL.get? c=some o) (st0:BL.StaysIn s.heap) (hz:s.heap.get? z=some (zipObj TI TO .none)) (hTO:s.heap.get? TO=some (pairObj va vb)) (h1:s.heap.get? i1=some (rgObj T a0 left step)) (hst:St 0 s.heap) (hC:s.heap.Ns C ma0) (hD:s.heap.get? D=some (listOf #[] c0)) (helt:∀ j h ma3 tk t (Q E':VS),j < n->BL.StaysIn h->Mid j h->h.Ns C ma3->ma3 xi=some (.int (a0+j * step) t)->ma3 xe=some (e j)->
   (∀ y h' tk' nw,(∀ c o,c ∉ Ms->h.get? c=some o->h'.get? c=some o)->St (j+1) h'->YP j y nw->(∀ q∈nw,h'.get? q.1=some q.2/\h.get? q.1=none)->Q y {s with heap:=h',toks:=tk'})->
   (∀ ex h' tk' b2,raw j=.thorn->(∀ c o,c ∉ Ms->c ∉ framesOf (env::outer)->h.get? c=some o->b2.get? c=some o)->St (j+1) b2->yQs "ValueError" b2 (env::outer) h (·=thW j) ex h'->E' (.ref ex) {s with heap:=h',toks:=tk'})->
   wpAny (model prog w) A (eval elt (compEnvC scope cl C env)) Q E' {s with heap:=h,toks:=tk}) (hR:∀ h' tk' ma2 (rs:List (Value×List (Addr×Obj))) c,A7 (rs.length=n) (∀ i r,rs[i]?=some r->YP i r.1 r.2) (∀ r∈rs,∀ q∈r.2,h'.get? q.1=some q.2/\s.heap.get? q.1=none) (h'.Ns C ma2) (h'.get? D=some (listOf (rs.map (·.1)).toArray c)) (St n h') (BL.StaysIn h')->R (.ok .next) {s with heap:=h',toks:=tk'}) (hV:∀ j ex h' tk' b2 m oC (rs:List (Value×List (Addr×Obj))),A4 (rs.length=j) (∀ i r,rs[i]?=some r->YP i r.1 r.2) (j < n) (raw j=.thorn)->A5 ((fb BL (env::outer)).StaysIn b2) (St (j+1) b2) (yQB "ValueError" b2 (env::outer) s.heap (·=thW j) L ex h') (h'.Ns C m) (b2.get? C=some oC)->R (.error (.ref ex)) {s with heap:=h',toks:=tk'}),
  codeAny (model prog w) A (.compLoop (.ListComp elt [⟨.Tuple [.Name xi p1,.Name xe p2] kk tp,iter,[],0⟩] scope pos) 0 (.ref z) (.ref D) (compEnvC scope cl C env)) R s
def zc:=ep (U42 zP) ⟨({},(start default).1,0,0,0,0,0,0,0,0,[],default,default,.none,0,0,0,fun O=>.thorn,fun O=>.none,fun O O=>True,fun O O=>True,"",0,0,.none,.none,default,[],fun O O=>True,default,default,default,default,default,default,default,default,[],default,fun O=>none,0,fun O O O=>True)⟩
def zd1:=zc.2.2.2.2.2.2.2.2
def zd2:=zd1.2.2.2.2.2.2.2.2
def zd3:=zd2.2.2.2.2.2.2.2.2
def zd4:=zd3.2.2.2.2.2.2.2.2
def zd5:=zd4.2.2.2.2.2.2.2.2
def A:=zc.1
def s:=zc.2.1
def z:=zc.2.2.1
def TI:=zc.2.2.2.1
def TO:=zc.2.2.2.2.1
def i1:=zc.2.2.2.2.2.1
def C:=zc.2.2.2.2.2.2.2.1
def D:=zd1.1
def Ms:=zd1.2.2.1
def BL:=zd1.2.2.2.1
def b:=zd1.2.2.2.2.1
def kv:=zd1.2.2.2.2.2.1
def N:=zd1.2.2.2.2.2.2.1
def n:=zd1.2.2.2.2.2.2.2.1
def left:=zd2.1
def raw:=zd2.2.1
def e:=zd2.2.2.1
def St:=zd2.2.2.2.1
def Mid:=zd2.2.2.2.2.1
def T:=zd2.2.2.2.2.2.1
def a0:=zd2.2.2.2.2.2.2.1
def step:=zd2.2.2.2.2.2.2.2.1
def va:=zd3.1
def vb:=zd3.2.1
def env:=zd3.2.2.1
def outer:=zd3.2.2.2.1
def R:=zd3.2.2.2.2.1
def scope:=zd4.2.2.2.2.1
def cl:=zd4.2.2.2.2.2.1
def ma0:=zd4.2.2.2.2.2.2.2.1
def c0:=zd5.1
def YP:=zd5.2
theorem zh:zP A s z TI TO i1 zc.2.2.2.2.2.2.1 C D zd1.2.1 Ms BL b kv N n left raw e St Mid T a0 step va vb env outer R zd3.2.2.2.2.2.1 zd3.2.2.2.2.2.2.1 zd3.2.2.2.2.2.2.2.1 zd4.1 zd4.2.1 zd4.2.2.1 zd4.2.2.2.1 scope cl zd4.2.2.2.2.2.2.1 ma0 c0 YP:=by
 intro kk Z hT hTI hC0 hD0 hn hn1 hkind hxi hxe hne hN hE lS lM al hd hu hh hfr hf hff hb hmax st0 hz hTO h1 hst hC hD helt hR hV
 obtain ⟨oC1,oC2,oC3,oC4,oC5,hDC,oDM⟩:=hC0
 obtain ⟨oD1,oD2,oD3,oD4⟩:=hD0
 have nB:∀ {c o},BL.get? c=some o->c≠z/\c≠TO/\c≠i1/\c ∉ Ms/\c≠C/\c≠D:=fun q=>⟨fun r=>by (rw [r,Z.zB] at q;cases q),fun r=>by (rw [r,Z.TOB] at q;cases q),fun r=>by (rw [r,Z.i1B] at q;cases q),fun r=>by (rw [Z.MB _ r] at q;cases q),fun r=>by (rw [r,oC5] at q;cases q),fun r=>by (rw [r,oD4] at q;cases q)⟩
 have fN:∀ {c},BL.get? c=none->c ∉ framesOf (env::outer):=fun q r=>by obtain ⟨o,ho⟩:=yQZ hff r;rw [q] at ho;cases ho
 have aM:∀ {a},a∈Ms->a≠z/\a≠TO/\a≠i1/\a≠C/\a≠D:=fun ha=>⟨fun r=>Z.zM (by rw [<- r];exact ha),fun r=>Z.TOM (by rw [<- r];exact ha),fun r=>Z.i1M (by rw [<- r];exact ha),fun r=>oC4 (by rw [<- r];exact ha),fun r=>oDM (by rw [<- r];exact ha)⟩
 refine yWv (fun k s'=>X9 fun j h tk ma2 rs c va vb u=>A14 (k=n+1 - j) (j<=n) (u=()) (s'={s with heap:=h,toks:=tk}) (St j h) (h.get? z=some (zipObj TI TO .none)) (h.get? TO=some (pairObj va vb)) (h.get? i1=some (rgObj T (a0+j * step) ((left:Int) - j) step)) (h.Ns C ma2) (h.get? D=some (listOf (rs.map Prod.fst).toArray c)) (BL.StaysIn h) (rs.length=j) (∀ i r,rs[i]?=some r->YP i r.1 r.2) ((∀ r∈rs,∀ q∈r.2,A7 (h.get? q.1=some q.2) (s.heap.get? q.1=none) (q.1 ∉ Ms) (q.1≠z) (q.1≠TO) (q.1≠i1) (q.1≠C/\q.1≠D)))) ?_ (n+1)
  ⟨0,s.heap,s.toks,ma0,[],c0,va,vb,(),rfl,vZ _,rfl,rfl,hst,hz,hTO,by simpa using h1,hC,hD,st0,rfl,(fun i r q=>by simp at q),fun r hr=>by simp at hr⟩
 rintro k s' ⟨j,h,tk,ma2,rs,c,va,vb,_,rfl,hj,_,rfl,hst',g1,g3,g4,hC',hD',st',hlen,hY,hNw⟩
 have g2:=st' _ _ hTI
 have hjN:j<=N:=qZ hj (by rw [hn];exact min_le_right _ _)
 by_cases hlt:j < n
 ·have hjN':j < N:=qP hlt (by rw [hn];exact min_le_right _ _)
  have hjl:j < left:=qP hlt (by rw [hn];exact min_le_left _ _)
  have fly:∀ {h1 h2:Heap} {tk2:Nat} {b2:Heap} {ex:Addr} {m:Str->Option Value},raw j=.thorn->h1.Ns C m->BL.StaysIn h1->(∀ c o,c ∉ Ms->c≠z->c≠TO->c≠i1->c ∉ framesOf (env::outer)->h1.get? c=some o->b2.get? c=some o)->St (j+1) b2->yQs "ValueError" b2 (env::outer) h1 (·=thW j) ex h2->
    notedBy (model prog w) A (compEnvC scope cl C env) (fun e s'=>R (.error e) s') (.ref ex) {s with heap:=h2,toks:=tk2}:=fun {h1 h2 tk2 b2 ex m} q0 q1 q2 q3 q4 q5=>by
   obtain ⟨oC,es,ep,ho,hr⟩:=q1
   have bC:=q3 _ _ oC4 oC1 oC2 oC3 (fN oC5) ho
   refine yZi (s:={s with heap:=h2,toks:=tk2}) hfr hf (q5.from (framed_b hff st0 q2)) fun h3 hx=>?_
   exact hV j ex h3 tk2 b2 m oC rs ⟨hlen,hY,hlt,q0⟩ ⟨fun c o q=>q3 c o (nB (vL _ q)).2.2.2.1 (nB (vL _ q)).1 (nB (vL _ q)).2.1 (nB (vL _ q)).2.2.1 (hide_of q) (q2 _ _ (vL _ q)),q4,hx,⟨oC,es,ep,hx.at _ _ bC,hr⟩,bC⟩
  refine yYf (s:={s with heap:=h,toks:=tk}) (b:=b) (B:=BL) (N:=N) (raw:=raw) (e:=e) (kv:=kv) Z hT g1 g2 g3 g4 (Int.sub_pos_of_lt (Int.ofNat_lt.2 hjl)) hN lS lM hjN' hd hu hh hfr hff hb st' hst' al (fun ha2 t tka2 TP ⟨k1,k2,k3,k4,k5,k6⟩ kp=>?_) fun ex ha2 tka2 b2 q0 q1 q2 q3 q4=>fly q1 hC' st' (fun c o c1 c2 c3 c4 c5 q=>q2 c o c2 c3 c4 c1 c5 q) q3 q4
  have tz:TP≠z:=fun r=>by rw [r,g1] at k6;cases k6
  refine yAQ k1 fun hd3 z3 s3=>?_
  refine assign_Tuple_tuple hh ⟨_,s3.extBut _ _ tz k5,rfl,_,rfl⟩ rfl rfl fun ha5 he=>?_
  have he':∀ b o,hd3.get? b=some o->ha5.get? b=some o:=fun b o e=>he b o (vB (qU e)) e
  have n5:ha5.Ns C ma2:=ns_at hC' fun o q=>he' _ o (s3.extBut _ o oC1 (kp _ o oC1 oC2 oC3 oC4 q))
  refine assignInOrder_cons (store_c hkind hxi n5 fun ha6 tka6 n6 s6=>?_)
  refine assignInOrder_cons (store_c hkind hxe n6 fun ha7 tka7 n7 s7=>?_)
  refine assignInOrder_nil ?_
  have up:∀ c o,c≠C->hd3.get? c=some o->ha7.get? c=some o:=fun c o hc q=>s7.extBut c o hc (s6.extBut c o hc (he' c o q))
  have upz:∀ c o,c≠C->c≠z->ha2.get? c=some o->ha7.get? c=some o:=fun c o hc hz q=>up c o hc (s3.extBut _ _ hz q)
  have st7:BL.StaysIn ha7:=fun c o q=>upz c o (nB q).2.2.2.2.1 (nB q).1 (kp c o (nB q).1 (nB q).2.1 (nB q).2.2.1 (nB q).2.2.2.1 (st' _ _ q))
  have hM7:Mid j ha7:=lM _ _ _ k4 fun a ha o q=>upz a o (aM ha).2.2.2.1 (aM ha).1 q
  refine wpAny_tests_nil ?_
  rw [qN rfl]
  refine helt j ha7 _ tka7 t _ _ hlt st7 hM7 n7 ?_ ?_ (fun y ha8 tka8 nw k8 st8 hy hnw=>?_) fun ex ha8 tka8 b2 q0 q2 q3 q4=>fly q0 n7 st7 (fun c o c1 _ _ _ c5 q=>q2 c o c1 c5 q) q3 q4
  ·rw [qM hne,qN rfl]
  ·rw [qN rfl]
  have D7:ha7.get? D=some (listOf (rs.map Prod.fst).toArray c):=upz _ _ hDC oD1 (kp _ _ oD1 oD2 oD3 oDM hD')
  have D8:=k8 _ _ oDM D7
  have hrl:rs.length<=1000:=by rw [hlen];exact qZ hjN hn1
  refine wpAny_list_append_plain ⟨_,D8⟩ (fun ha9 l9 s9=>?_) (hsz:=by rw [size_toArray,length_map,sizeLine_eq];exact qZ hrl (by decide))
  obtain ⟨c9,l9⟩:=l9
  have up9:∀ c o,c ∉ Ms->c≠D->ha7.get? c=some o->ha9.get? c=some o:=fun c o c1 c2 q=>s9.extBut c o c2 (k8 c o c1 q)
  refine ⟨n+1 - (j+1),(jl3 [_,_,_,_] 0xfab2aab31fa30ab2f10 na (nc (jg2 [_,_] 0xf01fab1abab0 hj))),j+1,ha9,tka8,_,rs++[(y,nw)],c9,.int (a0+j * step) t,e j,(),rfl,hlt,rfl,rfl,(lS _ _ _ st8 fun a ha o q=>s9.extBut _ _ (aM ha).2.2.2.2 q),up9 _ _ Z.zM (vF oD1) (up _ _ (vF oC1) z3),up9 _ _ Z.TOM (vF oD2) (upz _ _ (vF oC2) Z.TOz k2),?_,(ns_at n7 fun o q=>up9 _ o oC4 (vF hDC) q),?_,(fun c o q=>up9 c o (nB q).2.2.2.1 (nB q).2.2.2.2.2 (st7 _ _ q)),by simp [hlen],?_,?_⟩
  ·have e1:a0+((j+1:Nat):Int) * step=a0+(j:Int) * step+step:=by push_cast;rw [Int.add_mul,Int.one_mul,Int.add_assoc]
   have e2:(left:Int) - ((j+1:Nat):Int)=(left:Int) - (j:Int) - 1:=(Int.sub_sub left j 1).symm
   rw [e1,e2]
   exact up9 _ _ Z.i1M (vF oD3) (upz _ _ (vF oC3) Z.i1z k3)
  ·simpa using l9
  ·intro i r q
   rcases lt_trichotomy i rs.length with hi | hi | hi
   ·rw [List.getElem?_append_left hi] at q
    exact hY i r q
   ·subst hi
    rw [List.getElem?_append_right (vC _)] at q
    simp at q;subst q
    rw [hlen];exact hy
   ·rw [List.getElem?_append_right (wM hi)] at q
    obtain ⟨d,hd⟩:∃ d,i - rs.length=d+1:=⟨i - rs.length - 1,by exact (qH (jg2 [_,_] 0xfab01f1abab0 na) (jg2 [_,_] 0xf0ab1fab1ab0 (nc (jg3 [_,_,_] 0xfa102f2ab1fbab0 hi na))))⟩
    rw [hd] at q;simp at q
  ·intro r hr q hq
   rcases qF.mp hr with hr | hr
   ·obtain ⟨x1,x2,x3,x4,x5,x6,x7,x8⟩:=hNw r hr q hq
    exact ⟨up9 _ _ x3 x8 (upz _ _ x7 x4 (kp _ _ x4 x5 x6 x3 x1)),x2,x3,x4,x5,x6,x7,x8⟩
   ·rw [qC] at hr
    subst hr
    obtain ⟨y1,y2⟩:=hnw q hq
    have ne:∀ {a o},ha7.get? a=some o->q.1≠a:=fun g r=>by rw [r,g] at y2;cases y2
    have nz:=ne (up _ _ (vF oC1) z3)
    have nTO:=ne (upz _ _ (vF oC2) Z.TOz k2)
    have ni1:=ne (upz _ _ (vF oC3) Z.i1z k3)
    have nD:=ne D7
    have nC:q.1≠C:=by obtain ⟨o,ho⟩:=yQk n7;exact ne ho
    have nM:q.1 ∉ Ms:=fun r=>by obtain ⟨o,ho⟩:=al _ _ hM7 _ r;exact ne ho rfl
    refine ⟨s9.extBut _ _ nD y1,?_,nM,nz,nTO,ni1,nC,nD⟩
    cases x:s.heap.get? q.1 with
    | none=>rfl
    | some o=>
     have:=st7 _ _ (hmax _ _ nM nz nTO ni1 nC nD x)
     rw [y2] at this;cases this
 ·obtain rfl:j=n:=qH hj (qO hlt)
  refine yZU (s:={s with heap:=h,toks:=tk}) (b:=b) (B:=BL) (N:=N) (j:=_) Z hT g1 g2 g3 g4 hE lS ?_ hh hb st' hst' fun h' tk' st9 kp=>?_
  ·rcases Nat.le_total left N with q | q
   ·left;rw [min_eq_left q] at hn;rw [hn];exact Int.le_of_eq (Int.sub_self _)
   ·right;rw [min_eq_right q] at hn;exact hn
  ·exact hR h' tk' ma2 rs c ⟨hlen,hY,fun r hr q hq=>by
    obtain ⟨x1,x2,x3,x4,x5,x6,x7,x8⟩:=hNw r hr q hq
    exact ⟨kp _ _ x4 x5 x6 x3 x1,x2⟩,ns_at hC' fun o q=>kp _ o oC1 oC2 oC3 oC4 q,kp _ _ oD1 oD2 oD3 oDM hD',st9,fun c o q=>kp c o (nB q).1 (nB q).2.1 (nB q).2.2.1 (nB q).2.2.2.1 (st' _ _ q)⟩
end K_zip_loop3
section
variable {A:Around} {s:Shared} {z TI TO i1 IT C D L:Addr} {Ms:List Addr} {BL b:Heap} {kv:Value} {N n left:Nat} {raw:Nat->Rw} {e:Nat->Value} {St Mid:Nat->Heap->Prop} {T:String} {a0 step:Int} {va vb:Value} {env:Env} {outer:List Env} {R:Result->Shared->Prop} {elt iter:Expr} {xi xe:Str} {p1 p2 tp:Pos} {scope:Scope} {cl:List (Str×Addr)} {pos:Pos} {ma0:Str->Option Value} {c0:Nat}
theorem zip_loop3 {kk} (YP:Nat->Value->List (Addr×Obj)->Prop) (Z:Zp z TI TO i1 IT Ms BL) (hT:RgT T) (hTI:BL.get? TI=some (pairObj (.ref i1) (.ref IT)))
  (hC0:A7 (C≠z) (C≠TO) (C≠i1) (C ∉ Ms) (BL.get? C=none) (D≠C) (D ∉ Ms)) (hD0:A4 (D≠z) (D≠TO) (D≠i1) (BL.get? D=none)) (hn:n=min left N) (hn1:N<=1000) (hkind:scope.kind=.function) (hxi:scope.names.lookup xi=some .local) (hxe:scope.names.lookup xe=some .local) (hne:xi≠xe)
  (hN:yWE prog w b IT kv N raw e Ms St Mid) (hE:yVM prog w b IT N Ms St) (lS:yQU Ms St) (lM:yQU Ms Mid) (al:yJD Ms Mid)
  (hd:A.depth<=498) (hu:A.units<=780) (hh:A.handled=none) (hfr:A.frames=some (env::outer)) (hf:env.frame=some L) (hff:BL.FunFrames (fb BL (env::outer)) (env::outer)) (hb:b.StaysIn BL)
  (hmax:∀ c o,c ∉ Ms->c≠z->c≠TO->c≠i1->c≠C->c≠D->s.heap.get? c=some o->BL.get? c=some o) (st0:BL.StaysIn s.heap) (hz:s.heap.get? z=some (zipObj TI TO .none)) (hTO:s.heap.get? TO=some (pairObj va vb)) (h1:s.heap.get? i1=some (rgObj T a0 left step)) (hst:St 0 s.heap) (hC:s.heap.Ns C ma0) (hD:s.heap.get? D=some (listOf #[] c0))
  (helt:∀ j h ma3 tk t (Q E':VS),j < n->BL.StaysIn h->Mid j h->h.Ns C ma3->ma3 xi=some (.int (a0+j * step) t)->ma3 xe=some (e j)->
   (∀ y h' tk' nw,(∀ c o,c ∉ Ms->h.get? c=some o->h'.get? c=some o)->St (j+1) h'->YP j y nw->(∀ q∈nw,h'.get? q.1=some q.2/\h.get? q.1=none)->Q y {s with heap:=h',toks:=tk'})->
   (∀ ex h' tk' b2,raw j=.thorn->(∀ c o,c ∉ Ms->c ∉ framesOf (env::outer)->h.get? c=some o->b2.get? c=some o)->St (j+1) b2->yQs "ValueError" b2 (env::outer) h (·=thW j) ex h'->E' (.ref ex) {s with heap:=h',toks:=tk'})->
   wpAny (model prog w) A (eval elt (compEnvC scope cl C env)) Q E' {s with heap:=h,toks:=tk})
  (hR:∀ h' tk' ma2 (rs:List (Value×List (Addr×Obj))) c,A7 (rs.length=n) (∀ i r,rs[i]?=some r->YP i r.1 r.2) (∀ r∈rs,∀ q∈r.2,h'.get? q.1=some q.2/\s.heap.get? q.1=none) (h'.Ns C ma2) (h'.get? D=some (listOf (rs.map (·.1)).toArray c)) (St n h') (BL.StaysIn h')->R (.ok .next) {s with heap:=h',toks:=tk'})
  (hV:∀ j ex h' tk' b2 m oC (rs:List (Value×List (Addr×Obj))),A4 (rs.length=j) (∀ i r,rs[i]?=some r->YP i r.1 r.2) (j < n) (raw j=.thorn)->A5 ((fb BL (env::outer)).StaysIn b2) (St (j+1) b2) (yQB "ValueError" b2 (env::outer) s.heap (·=thW j) L ex h') (h'.Ns C m) (b2.get? C=some oC)->R (.error (.ref ex)) {s with heap:=h',toks:=tk'}):
  codeAny (model prog w) A (.compLoop (.ListComp elt [⟨.Tuple [.Name xi p1,.Name xe p2] kk tp,iter,[],0⟩] scope pos) 0 (.ref z) (.ref D) (compEnvC scope cl C env)) R s:=
 eps (P:=U42 K_zip_loop3.zP) K_zip_loop3.zh (A,s,z,TI,TO,i1,IT,C,D,L,Ms,BL,b,kv,N,n,left,raw,e,St,Mid,T,a0,step,va,vb,env,outer,R,elt,iter,xi,xe,p1,p2,tp,scope,cl,pos,ma0,c0,YP) kk Z hT hTI hC0 hD0 hn hn1 hkind hxi hxe hne hN hE lS lM al hd hu hh hfr hf hff hb hmax st0 hz hTO h1 hst hC hD helt hR hV
end
section
variable {A:Around} {s:Shared} {E:VS} {env:Env}
theorem yYv (w:Int):Builtin.Range.rangeSize 0 (-w) (-1)=(w.toNat:Int):=by
 rw [rangeSize_downNat,Int.sub_neg,Int.zero_add]
theorem yBo (w:Int):Builtin.Range.rangeSize 0 w 1=(w.toNat:Int):=by
 rw [rangeSize_nat,Int.sub_zero]
end
theorem yJy {h:Heap}:∀ {Ms:List Addr},(∀ a∈Ms,∃ o,h.get? a=some o)->∃ ms':List (Addr×Obj),ms'.map Prod.fst=Ms/\∀ q∈ms',h.get? q.1=some q.2
 | [],_=>⟨[],rfl,fun q hq=>nomatch hq⟩
 | a::l,aS=>by
  obtain ⟨ms',e1,e2⟩:=yJy (h:=h) (Ms:=l) fun x hx=>aS x (.tail _ hx)
  obtain ⟨o,ho⟩:=aS a (.head _)
  refine ⟨(a,o)::ms',by rw [map_cons,e1],fun q hq=>?_⟩
  rcases qG.mp hq with rfl | hq
  ·exact ho
  ·exact e2 q hq
def yJI (o:Obj):Prop:=(X2 fun l k=>o=liObj l k)\/X2 fun TI fq=>o=mapObj TI fq
section
variable {A:Around} {s:Shared} {E:VS} {env:Env}
theorem pyIter_self {prog:Program} {w:World} {x:Addr} {o:Obj} {Q:VS} (hi:yJI o) (ho:s.heap.get? x=some o) (h:Q (.ref x) s):wpAny (model prog w) A (pyIter (.ref x)) Q E s:=by
 rcases hi with ⟨l,k,rfl⟩ | ⟨TI,fq,rfl⟩
 ·exact wpAny_pyIter_listiter (li_is ho) h
 ·exact yXG ho h
theorem meets_zip_any (R IT:Addr) (o:Obj) (a b c:Int) (t u v:Tok) (hi:yJI o):
  Meets (Builtin.«zip.__new__» ⟨[.type "zip",.ref R,.ref IT],[]⟩) (fun _ P s=>IsRange s.heap R a b c t u v/\s.heap.get? IT=some o/\
   P (.ok (.ret (.ref (zr3 s.heap a b c IT).objs.size))) {s with heap:=zr4 s.heap a b c IT}):=
 .of_wp fun prog w A R' s h=>by
  obtain ⟨hp,g,d,tk,os⟩:=s;obtain ⟨hl1,hl2,h⟩:=h
  have hsub:=sub_zip
  have hL1:IsRange (Shared.heap ⟨hp,g,d,tk,os⟩) R a b c t u v:=hl1
  have hL2:(Shared.heap ⟨hp.push (rgObj (rgT a b c) a (Builtin.Range.rangeSize a b c) c),g,d,tk,os⟩).get? IT=some o:=qS _ hl2
  wp_walk using yJW hL1,pyIter_self hi hL2
  exact ⟨_,rfl,h⟩
theorem yWy {R IT:Addr} {o:Obj} {a b c:Int} {t u v:Tok} {Q:VS} (hi:yJI o) (hR:IsRange s.heap R a b c t u v) (hI:s.heap.get? IT=some o)
  (h:∀ h' z TI TO i1,yQO z TI TO i1 IT->h'.get? z=some (zipObj TI TO .none)->h'.get? TI=some (pairObj (.ref i1) (.ref IT))->h'.get? TO=some (pairObj .none .none)->
   h'.get? i1=some (rgObj (rgT a b c) a (Builtin.Range.rangeSize a b c) c)->s.heap.get? z=none->s.heap.get? TI=none->s.heap.get? TO=none->s.heap.get? i1=none->s.heap.StaysIn h'->Q (.ref z) {s with heap:=h'}):
  wpAny (model prog w) A (call (.type "zip") [.ref R,.ref IT]) Q E s:=by
 refine callType_new F.called_zip (by decide) (F.typeCall_zip_2 _ _) (F.newCall_zip_2 _ _) (fun obj=>F.args_object_init_3 obj _ _) F.entry_zip_new
  (meets_zip_any R IT o a b c t u v hi) ⟨hR,hI,?_⟩
 have z1:(zr1 s.heap a b c).objs.size=s.heap.objs.size+1:=Heap.size_push ..
 have z2:(zr2 s.heap a b c IT).objs.size=s.heap.objs.size+2:=by rw [Heap.size_push,z1]
 have z3:(zr3 s.heap a b c IT).objs.size=s.heap.objs.size+3:=by rw [Heap.size_push,z2]
 have g4:(zr4 s.heap a b c IT).get? (zr3 s.heap a b c IT).objs.size=some (zipObj (zr1 s.heap a b c).objs.size (zr2 s.heap a b c IT).objs.size .none):=qX _ rfl
 have g3:(zr4 s.heap a b c IT).get? (zr2 s.heap a b c IT).objs.size=some (pairObj .none .none):=qS _ (qX _ rfl)
 have g2:(zr4 s.heap a b c IT).get? (zr1 s.heap a b c).objs.size=some (pairObj (.ref s.heap.objs.size) (.ref IT)):=qS _ (qS _ (qX _ rfl))
 have g1:(zr4 s.heap a b c IT).get? s.heap.objs.size=some (rgObj (rgT a b c) a (Builtin.Range.rangeSize a b c) c):=qS _ (qS _ (qS _ (qX _ rfl)))
 have hlt:IT < s.heap.objs.size:=qU hI
 show _/\_
 rw [z1,z2,z3] at g4
 rw [z2] at g3
 rw [z1] at g2
 rw [z3]
 have ne:∀ {a b:Nat},@LT.lt Nat _ a b->b≠a:=fun q=>ne_of_gt q
 have D:∀ n:Nat,@LT.lt Nat _ IT n->yQO (n+3) (n+1) (n+2) n IT:=fun n hn=>
  have P:=fun (i j:Nat) (h:i < j)=>vB (Nat.add_lt_add_left h n)
  ⟨P 1 3 (by decide),P 2 3 (by decide),P 0 3 (by decide),vB (Nat.lt_add_right 3 hn),P 1 2 (by decide),(P 0 1 (by decide)).symm,ne (Nat.lt_add_right 1 hn),(P 0 2 (by decide)).symm,ne (Nat.lt_add_right 2 hn),ne hn⟩
 exact ⟨⟨_,g4,rfl⟩,h _ _ _ _ _ (D _ hlt) g4 g2 g3 g1 (qV (Nat.le_add_right _ _)) (qV (Nat.le_add_right _ _)) (qV (Nat.le_add_right _ _)) (qV (vC _)) fun c o x=>
  qS _ (qS _ (qS _ (qS _ x)))⟩
def yJQ (B:Heap) (L:Addr) (m:Str->Option Value) (IT:Addr) (nw:List (Addr×Obj)) (a0 step:Int) (left:Nat) (s:Shared) (xv:Value) (sa1:Shared):Prop:=
 X8 fun h4 h5 tk z TI TO i1 T=>A14 (xv=.ref z) (sa1={s with heap:=h5,toks:=tk}) (Fr B L h4 m) (News B L h4 nw) (h4.StaysIn h5) (RgT T) (yQO z TI TO i1 IT) (h5.get? z=some (zipObj TI TO .none)) (h5.get? TI=some (pairObj (.ref i1) (.ref IT))) (h5.get? TO=some (pairObj .none .none)) (h5.get? i1=some (rgObj T a0 left step)) (h4.get? z=none) (h4.get? TO=none/\h4.get? TI=none) (h4.get? i1=none)
theorem zip_made3 {L rr IT:Addr} {a0 bb step:Int} {t u v:Tok} {left:Nat} {B:Heap} {m:Str->Option Value} {nw:List (Addr×Obj)} {o:Obj} {s':Shared} (hi:yJI o) (hIT:s'.heap.get? IT=some o) (F4:Fr B L s'.heap m) (N4:News B L s'.heap nw) (hrg:IsRange s'.heap rr a0 bb step t u v) (hleft:Builtin.Range.rangeSize a0 bb step=(left:Int))
  (hs:X2 fun h tk=>s'={s with heap:=h,toks:=tk}):wpAny (model prog w) A (call (.type "zip") [.ref rr,.ref IT]) (yJQ B L m IT nw a0 step left s) E s':=by
 obtain ⟨h,tk,rfl⟩:=hs
 exact yWy hi hrg hIT fun h5 z TI TO i1 ap gz gTI gTO gi1 nz nTI nTO ni1 st5=>⟨_,h5,tk,z,TI,TO,i1,_,rfl,rfl,F4,N4,st5,yYA,ap,gz,gTI,gTO,by rw [<- hleft];exact gi1,nz,⟨nTO,nTI⟩,ni1⟩
end
theorem yQB.from {T:String} {b h0 h1 h:Heap} {l:List Env} {Wd:Str->Prop} {L ex:Addr} (hx:yQB T b l h1 Wd L ex h) (fr:yQa l h0 h1):yQB T b l h0 Wd L ex h:=by
 obtain ⟨t,m,tk,f1,f2,f3,f4,f5⟩:=hx
 exact ⟨t,m,tk,f1,f2,f3,f4,fr.trans f5⟩
section
variable {A:Around} {s:Shared} {E:VS} {env:Env} {outer:List Env}
theorem yJS {elt iter:Expr} {y xi xe:Str} {py p1 p2 tp pos spos:Pos} {kk} {scope:Scope} {cl:List (Str×Addr)} {Q:Flow->Shared->Prop} {L IT:Addr} {a0 step:Int} {left N n:Nat} {e:Nat->Value} {B b:Heap} {m:Str->Option Value} {nw ms:List (Addr×Obj)} {kv:Value} {raw:Nat->Rw} {St Mid:Nat->Heap->Prop} {Ms:List Addr}
  (YP:Nat->Value->List (Addr×Obj)->Prop) (hloc:env.locals=L) (hf:env.frame=some L) (hfk:env.scope.kind=.function)
  (hsw:swapsWith (.ListComp elt [⟨.Tuple [.Name xi p1,.Name xe p2] kk tp,iter,[],0⟩] scope pos) (some (.Name y py)) spos.line env=pure true)
  (hclos:closureFor scope env=pure cl) (hcell:∀ z∈scope.names,z.2≠.cell) (hnames:∀ z∈scope.names,z.2=.local->scope.names.lookup z.1=some .local)
  (hy:env.kindOf y=some .local) (hp:(env.scope.kind == .class || (env.scope.kind == .module && env.locals != env.globals))=false) (hs:∀ x,foldedSetIterable iter env x=pure x)
  (hh:A.handled=none) (hkind:scope.kind=.function) (hxi:scope.names.lookup xi=some .local) (hxe:scope.names.lookup xe=some .local) (hne:xi≠xe) (hn:n=min left N) (hn1:N<=1000)
  (hN:yWE prog w b IT kv N raw e Ms St Mid) (hE:yVM prog w b IT N Ms St) (lS:yQU Ms St) (lM:yQU Ms Mid) (al:yJD Ms Mid) (as:yJD Ms St) (hd:A.depth<=498) (hu:A.units<=780) (hfr:A.frames=some (env::outer)) (hff:B.FunFrames (fb B outer) outer) (hb:b.StaysIn B)
  (hms:ms.map Prod.fst=Ms) (hnw:∀ q∈nw,q.1 ∉ Ms)
  (hmade:wpAny (model prog w) A (eval iter env) (fun xv sa1=>yJQ B L m IT (ms++nw) a0 step left s xv sa1/\St 0 sa1.heap) E s)
  (helt:∀ C j h ma3 tk t (Q E':VS),j < n->C ∉ Ms->B.StaysIn h->(hideAll h Ms).FunFrames (fb (hideAll h Ms) (env::outer)) (env::outer)->(∀ q∈nw,h.get? q.1=some q.2)->Mid j h->h.Ns C ma3->ma3 xi=some (.int (a0+j * step) t)->ma3 xe=some (e j)->
   (∀ y h' tk' nw,(∀ c o,c ∉ Ms->h.get? c=some o->h'.get? c=some o)->St (j+1) h'->YP j y nw->(∀ q∈nw,h'.get? q.1=some q.2/\h.get? q.1=none)->Q y {s with heap:=h',toks:=tk'})->
   (∀ ex h' tk' b2,raw j=.thorn->(∀ c o,c ∉ Ms->c ∉ framesOf (env::outer)->h.get? c=some o->b2.get? c=some o)->St (j+1) b2->yQs "ValueError" b2 (env::outer) h (·=thW j) ex h'->E' (.ref ex) {s with heap:=h',toks:=tk'})->
   wpAny (model prog w) A (eval elt (compEnvC scope cl C env)) Q E' {s with heap:=h,toks:=tk})
  (k:∀ D h8 tk8 c ms' (rs:List (Value×List (Addr×Obj))),rs.length=n->(∀ i r,rs[i]?=some r->YP i r.1 r.2)->Fr B L h8 (fun z=>if z=y then some (.ref D) else m z)->ms'.map Prod.fst=Ms->
   News B L h8 ((D,listOf (rs.map (·.1)).toArray c)::(ms'++(nw++rs.flatMap (·.2))))->St n h8->D ∉ Ms->(∀ q∈rs.flatMap (·.2),q.1 ∉ Ms)->Q .next {s with heap:=h8,toks:=tk8})
  (hV:∀ j ex h' tk' b2 (rs:List (Value×List (Addr×Obj))),A4 (rs.length=j) (∀ i r,rs[i]?=some r->YP i r.1 r.2) (j < n) (raw j=.thorn)->A3 ((fb B outer).StaysIn b2) (St (j+1) b2) (yQB "ValueError" b2 (env::outer) B (·=thW j) L ex h')->E (.ref ex) {s with heap:=h',toks:=tk'}):
  wpAny (model prog w) A (exec (.Assign [.Name y py] (.ListComp elt [⟨.Tuple [.Name xi p1,.Name xe p2] kk tp,iter,[],0⟩] scope pos) spos) env) Q E s:=by
 subst hloc
 refine yWC (outer:=outer) (T:="ValueError") (h0:=B) hf hsw hclos hcell hkind hnames hy hp (qL hmade (fun xv sa1 hz=>?_) fun _ _ e=>e) hs
 obtain ⟨⟨h4,h5,tk5,z,TI,TO,i1,T,rfl,rfl,F4,N4,st5,hT,ap,gz,gTI,gTO,gi1,nz,⟨nTO,nTI⟩,ni1⟩,hst5⟩:=hz
 obtain ⟨oL,gL⟩:=yQk F4.ns
 refine yQV gz ?_
 intro C D h6 tk6 st6 nC nD nDC hC hD
 refine ⟨fun Q E q=>yQV (st6 _ _ gz) q,?_⟩
 have st46:h4.StaysIn h6:=fun a o q=>st6 _ _ (st5 _ _ q)
 have aM4:∀ a∈Ms,∃ o,h4.get? a=some o/\a≠env.locals/\B.get? a=none:=fun a ha=>by
  rw [<- hms] at ha
  obtain ⟨q,hq,rfl⟩:=wB.mp ha
  exact ⟨_,N4 q (qF.mpr (.inl hq))⟩
 have n4B:∀ {a},h4.get? a=none->B.get? a=none:=fun q=>by
  cases r:B.get? _ with
  | none=>rfl
  | some o=>rw [F4.keep _ _ r] at q;cases q
 have n5B:∀ {a},h5.get? a=none->B.get? a=none:=fun q=>by
  cases r:B.get? _ with
  | none=>rfl
  | some o=>rw [st5 _ _ (F4.keep _ _ r)] at q;cases q
 have n4L:∀ {a},h4.get? a=none->a≠env.locals:=fun q r=>by rw [r,gL] at q;cases q
 have n5L:∀ {a},h5.get? a=none->a≠env.locals:=fun q r=>by rw [r,st5 _ _ gL] at q;cases q
 have g5:∀ {a b:Addr} {o:Obj},h5.get? a=some o->h5.get? b=none->b≠a:=fun q1 q2 r=>by rw [r,q1] at q2;cases q2
 have nM5:∀ {a},h5.get? a=none->a ∉ Ms:=fun q r=>by obtain ⟨o,ho,_⟩:=aM4 _ r;rw [st5 _ _ ho] at q;cases q
 have nM4:∀ {a},h4.get? a=none->a ∉ Ms:=fun q r=>by obtain ⟨o,ho,_⟩:=aM4 _ r;rw [ho] at q;cases q
 have F6:Fr B env.locals h6 m:=⟨ns_at F4.ns fun o q=>st46 _ o q,fun a o q=>st46 _ _ (F4.keep _ _ q),F4.above⟩
 have hS:∀ x∈z::TO::i1::C::D::Ms,x≠env.locals/\B.get? x=none:=fun x hx=>by
  simp only [qG] at hx
  rcases hx with rfl | rfl | rfl | rfl | rfl | hx
  ·exact ⟨n4L nz,n4B nz⟩
  ·exact ⟨n4L nTO,n4B nTO⟩
  ·exact ⟨n4L ni1,n4B ni1⟩
  ·exact ⟨n5L nC,n5B nC⟩
  ·exact ⟨n5L nD,n5B nD⟩
  ·exact (aM4 x hx).elim fun o q=>q.2
 have stBL:B.StaysIn (hideAll h6 (z::TO::i1::C::D::Ms)):=fun a o q=>vJ _ (F6.keep _ _ q) fun r=>by rw [(hS a r).2] at q;cases q
 have ffL:=ff_call (env:=env) F6 hff hS hfk hf
 have noS:∀ {a},a∈z::TO::i1::C::D::Ms->(hideAll h6 (z::TO::i1::C::D::Ms)).get? a=none:=fun q=>vK _ q
 have TIS:TI ∉ z::TO::i1::C::D::Ms:=fun r=>by
  simp only [qG] at r
  rcases r with r | r | r | r | r | r
  ·exact ap.TIz r
  ·exact ap.TITO r
  ·exact ap.TIi1 r
  ·exact g5 gTI nC r.symm
  ·exact g5 gTI nD r.symm
  ·exact nM4 nTI r
 have nwS:∀ q∈nw,q.1 ∉ z::TO::i1::C::D::Ms:=fun q hq r=>by
  have e:=(N4 q (qF.mpr (.inr hq))).1
  simp only [qG] at r
  rcases r with r | r | r | r | r | r
  ·rw [r,nz] at e;cases e
  ·rw [r,nTO] at e;cases e
  ·rw [r,ni1] at e;cases e
  ·exact g5 (st5 _ _ e) nC r.symm
  ·exact g5 (st5 _ _ e) nD r.symm
  ·exact hnw q hq r
 have C6:=yQk hC
 have nCf:C ∉ framesOf (env::outer):=fun r=>by obtain ⟨o,ho⟩:=yQZ ffL r;rw [noS (by simp)] at ho;cases ho
 have LC:C≠env.locals:=n5L nC
 have LD:D≠env.locals:=n5L nD
 have gL6:=st46 _ _ gL
 have LS:env.locals ∉ z::TO::i1::C::D::Ms:=fun r=>(hS _ r).1 rfl
 refine codeAny_mono (zip_loop3 (s:={s with heap:=h6,toks:=tk6}) (BL:=hideAll h6 (z::TO::i1::C::D::Ms)) (b:=b) (N:=N) (n:=n) (left:=left) (raw:=raw) (e:=e) (kv:=kv) (L:=env.locals) (outer:=outer)
  (R:=fun r s'=>(r=.ok .next/\X2 fun m mL=>A4 (s'.heap.Ns C m) (s'.heap.Ns env.locals mL) (C≠env.locals) (∀ h' tk,h'.Ns env.locals (fun z=>if z=y then some (.ref D) else mL z)->(∀ c o,c≠env.locals->c≠C->s'.heap.get? c=some o->h'.get? c=some o)->Q .next { s' with heap:=h',toks:=tk }))
     \/(X5 fun ex b2 m oC Wd=>A6 (r=.error (.ref ex)) (yQB "ValueError" b2 (env::outer) B Wd env.locals ex s'.heap) (s'.heap.Ns C m) (b2.get? C=some oC) (C ∉ framesOf (env::outer)) (∀ h',yQB "ValueError" (hideAll b2 [C]) (env::outer) B Wd env.locals ex h'->E (.ref ex) { s' with heap:=h' })))
  YP ⟨ap.TOz,ap.i1z,ap.TIz,ap.TITO,ap.TIi1,ap.TOi1,nM4 nz,nM4 nTO,nM4 ni1,nM4 nTI,noS (by simp),noS (by simp),noS (by simp),fun a ha=>noS (by simp [ha])⟩ hT (vJ _ (st6 _ _ gTI) TIS)
  ⟨g5 gz nC,g5 gTO nC,g5 gi1 nC,nM5 nC,noS (by simp),nDC,nM5 nD⟩ ⟨g5 gz nD,g5 gTO nD,g5 gi1 nD,noS (by simp)⟩ hn hn1 hkind hxi hxe hne hN hE lS lM al hd hu hh hfr hf ffL (fun _ _ q=>stBL _ _ (hb _ _ q))
  (fun c o c1 c2 c3 c4 c5 c6 q=>vJ _ q (by simp [c1,c2,c3,c4,c5,c6])) (fun _ _ q=>vL _ q) (st6 _ _ gz) (st6 _ _ gTO) (st6 _ _ gi1) (lS _ _ _ hst5 fun _ _ _ q=>st6 _ _ q) hC hD ?_ ?_ ?_) fun r s' q=>q
 ·intro j h ma3 tk t Q E' hj sBL hM hn3 q1 q2 kQ kE
  refine helt C j h ma3 tk t Q E' hj (nM5 nC) (fun _ _ q=>sBL _ _ (stBL _ _ q)) ?_ (fun q hq=>sBL _ _ (vJ _ (st46 _ _ (N4 q (qF.mpr (.inr hq))).1) (nwS q hq))) hM hn3 q1 q2 kQ kE
  exact ff_up ffL fun a o q=>vJ _ (sBL _ _ q) fun r=>by rw [noS (by simp [r])] at q;cases q
 ·rintro h7 tk7 ma2 rs c ⟨q1,q2,q3,q4,q5,q6,q7⟩
  have L7:h7.Ns env.locals m:=ns_at F6.ns fun o q=>q7 _ _ (vJ _ q LS)
  refine .inl ⟨rfl,ma2,m,q4,L7,LC,fun h8 tk8 n8 k8=>?_⟩
  have aS:∀ a∈Ms,∃ o,h7.get? a=some o:=as _ _ q6
  obtain ⟨ms',e1,e2⟩:=yJy aS
  refine k D h8 tk8 c ms' rs q1 q2 ⟨n8,fun a o q=>k8 _ _ (fun r=>?_) (fun r=>?_) (q7 _ _ (stBL _ _ q)),F4.above⟩ e1 ?_ (lS _ _ _ q6 fun a ha o q=>k8 _ _ (fun r=>(aM4 a ha).elim fun o z=>z.2.1 r) (fun r=>nM5 nC (by rw [<- r];exact ha)) q) (nM5 nD) (fun q hq z=>by
    obtain ⟨r,hr,hq⟩:=mem_flatMap.mp hq
    obtain ⟨_,g2⟩:=q3 r hr q hq
    obtain ⟨o,ho,_⟩:=aM4 _ z
    have:=st46 _ _ ho
    dsimp only at g2
    rw [this] at g2;cases g2)
  ·rw [r] at q;exact absurd (qU q) (vX.mpr F4.above)
  ·rw [r,n5B nC] at q;cases q
  ·intro q hq
   rcases qG.mp hq with rfl | hq
   ·exact ⟨k8 _ _ LD nDC q5,LD,n5B nD⟩
   rcases qF.mp hq with hq | hq
   ·have ha:q.1∈Ms:=by rw [<- e1];exact wB.mpr ⟨q,hq,rfl⟩
    obtain ⟨_,_,z1,z2⟩:=aM4 _ ha
    exact ⟨k8 _ _ z1 (fun r=>nM5 nC (by rw [<- r];exact ha)) (e2 q hq),z1,z2⟩
   rcases qF.mp hq with hq | hq
   ·have z0:=N4 q (qF.mpr (.inr hq))
    exact ⟨k8 _ _ z0.2.1 (fun r=>nwS q hq (by simp [r])) (q7 _ _ (vJ _ (st46 _ _ z0.1) (nwS q hq))),z0.2⟩
   obtain ⟨r,hr,hq⟩:=mem_flatMap.mp hq
   obtain ⟨g1,g2⟩:=q3 r hr q hq
   have nL:q.1≠env.locals:=fun r=>by rw [r] at g2;dsimp only at g2;rw [gL6] at g2;cases g2
   have nC':q.1≠C:=fun r=>by obtain ⟨o,ho⟩:=C6;rw [r] at g2;dsimp only at g2;rw [ho] at g2;cases g2
   refine ⟨k8 _ _ nL nC' g1,nL,?_⟩
   cases r:B.get? q.1 with
   | none=>rfl
   | some o=>have:=F6.keep _ _ r;dsimp only at g2;rw [this] at g2;cases g2
 ·rintro j ex h' tk' b2 m' oC rs ⟨q1,q2,q3,q4⟩ ⟨q5,q6,q7,q8,q9⟩
  have fr:yQa (env::outer) B h6:=fun a ha m n=>by
   obtain ⟨o,es,ep,ho,r⟩:=n
   exact ⟨o,es,ep,F6.keep _ _ ho,r⟩
  refine .inr ⟨ex,b2,m',oC,_,rfl,q7.from fr,q8,q9,nCf,fun h'' hx=>?_⟩
  refine hV j ex h'' tk' (hideAll b2 [C]) rs ⟨q1,q2,q3,q4⟩ ⟨fun a o q=>vJ _ (q5 _ _ ?_) fun r=>?_,lS _ _ _ q6 fun a ha o q=>vJ _ q fun r=>nM5 nC (by rw [<- qC.mp r];exact ha),hx⟩
  ·have z0:B.get? a=some o:=vL _ q
   refine vJ _ (stBL _ _ z0) fun r=>?_
   rw [yQh hf] at r
   rcases qG.mp r with rfl | r
   ·exact absurd (qU z0) (vX.mpr F4.above)
   ·exact hide_of q r
  ·have z0:B.get? a=some o:=vL _ q
   rw [qC.mp r,n5B nC] at z0;cases z0
end
section
variable {A:Around} {s:Shared} {b:Heap}
theorem yXJ {x:Nat->Int} {N:Nat} (hN:0 < N):(ordD x N).getD 0 0 < N:=by
 have hl:0 < (ordD x N).length:=by rw [ordD_len];exact hN
 have:(ordD x N).getD 0 0∈ordD x N:=by
  rw [qR,qT hl];exact wK hl
 exact ordD_mem.mp this
theorem yXI {x:Nat->Int} {N:Nat} (hN:0 < N):(ordD x N).take (1:Int).toNat=[(ordD x N).getD 0 0]:=by
 have hl:0 < (ordD x N).length:=by rw [ordD_len];exact hN
 cases q:ordD x N with
 | nil=>rw [q] at hl;simp at hl
 | cons a r=>simp
theorem none_sub {h h':Heap} {a:Addr} (st:h.StaysIn h') (q:h'.get? a=none):h.get? a=none:=by
 cases z:h.get? a with
 | none=>rfl
 | some o=>rw [st _ _ z] at q;cases q
theorem ge_mem {xs:List It} (h:0 < xs.length):ge xs 0∈xs:=by
 unfold ge
 rw [qR,qT h]
 exact wK h
theorem evalArgs_kw0 {M:Model} {E:VS} {f:Value} {keywords:List (Option Str×Sem Value)} {Q:Args->Shared->Prop} (hall:keywords.all (·.1.isSome)=true)
  (h:wpAny M A (evalAll (keywords.map (·.2))) (fun kvs sa2=>Q ⟨[],(keywords.filterMap (·.1)).zip kvs⟩ sa2) E s):wpAny M A (evalArgs f true [] keywords) Q E s:=by
 unfold evalArgs
 refine qA (m:=spliced []) (qI ?_)
 refine qA (qI ?_)
 refine wpAny_holding ?_
 rw [qN hall]
 refine qA (qL h (fun kvs sa2 ha2=>?_) fun _ _ x=>x)
 exact qA (qI (qI ha2))
theorem args_sort_rev (a v:Value):argsOk "list.sort" ⟨[a],[(Str.ofString "reverse",v)]⟩:=by unfold argsOk;kernel_rfl
theorem yAa {x:Nat->Int} {N k:Nat}:(ordD x N).take (min k N)=(ordD x N).take k:=by
 rcases Nat.le_total k N with h | h
 ·rw [min_eq_left h]
 ·rw [min_eq_right h,take_of_length_le (by rw [ordD_len];exact vC _),take_of_length_le (by rw [ordD_len];exact h)]
theorem yVt {e:Nat->Value} {zs:List It} {l:List Nat} {n:Nat} (h:zs.map pl=l) (hn:zs.length=n):(List.range n).map (fun i=>e (pl (zs.getD i it0)))=l.map e:=by
 subst hn h
 refine ext_getElem (by simp) fun i a b=>?_
 have hi:i < zs.length:=by simpa using a
 simp [qR,hi]
noncomputable def adOf:Value->Addr
 | .ref T=>T
 | _=>0
theorem yQG {E:VS} {it:Addr} {o:Obj} {Q:VS} (ho:s.heap.get? it=some o) (hc:o.cls=.type "list_iterator") (h:Q (.ref it) s):wpAny (model prog w) A (pyIter (.ref it)) Q E s:=by
 have ht:s.TypeIs (.ref it) "list_iterator":=⟨o,ho,hc⟩
 refine wpAny_pyIter_slot ht slot_listiter_iter (vU slot_listiter_iter ht entry_listiter_iter ?_ (args_listiter_iter _))
 show wpAny _ _ (ret (.ref it)) _ _ s
 exact qI ⟨_,rfl,"list_iterator",_,ht,slot_listiter_next.lookup,h⟩
theorem yQD {env:Env} {E:VS} {scope:Scope} {cl:List (Str×Addr)} {C c:Addr} {o:Obj} {x:Str} {px:Pos} {v:Value} {Q:VS} (hkind:scope.kind=.function) (hx:(compEnvC scope cl C env).kindOf x=some .cell) (hc:cl.lookup x=some c)
  (hg:s.heap.get? c=some o) (hd:o.data=.cell (some v)) (h:Q v s) (hb:(x == ("__debug__":Str))=false:=by decide):wpAny (model prog w) A (eval (.Name x px) (compEnvC scope cl C env)) Q E s:=
 wpAny_Name (wpAny_loadName_cell (env:=compEnvC scope cl C env) hkind hx hc ⟨o,hg,hd⟩ h) hb
end
section
variable {A:Around} {s:Shared} {b:Heap} {K:Frag}
theorem yZo {R:Result->Shared->Prop} {name qual:Str} {params:Arguments} {body:List Stmt} {scope:Scope} {dV kV doc pm cdv ct oc:Value} {an od:Option Addr} {osl:Array (Option Value)} {f:Addr} {args:Args} {binds:List (Str×Value)}
  (st:b.StaysIn s.heap) (hsz:b.objs.size<=s.heap.objs.size) (X:K.In b) (T:Top p loose yQv mg mb b)
  (ho:K.lookup f=some ⟨oc,od,.func (fnOf name qual params body scope dV kV doc pm an cdv ct),osl⟩) (hcd:codeIn K cdv qual=true) (hroom:A.depth < recursionLimit)
  (hbind:BindsTo s (fnOf name qual params body scope dV kV doc pm an cdv ct) args binds)
  (hkind:(binds.all fun y=>scope.names.lookup y.1 == some .local || scope.names.lookup y.1 == some .cell)=true)
  (hnd:((cellsFrom 0 scope.names []).map (·.1)).Nodup)
  (h:∀ ha1 tk cells,Fr b s.heap.objs.size ha1 (bindL (envOfC qual scope s.heap.objs.size f cdv).kindOf binds fun O=>none)->News b s.heap.objs.size ha1 cells->
   CellsAre (bindC (envOfC qual scope s.heap.objs.size f cdv).kindOf binds fun O=>none) (cellsFrom (s.heap.objs.size+1) scope.names []) cells->s.heap.StaysIn ha1->
   wpAny (model prog w) (A.deeper (envOfC qual scope s.heap.objs.size f cdv)) (execs body (envOfC qual scope s.heap.objs.size f cdv))
    (fun fl s'=>R (.ok (.ret (match fl with | .ret v=>v | _=>.none))) s')
    (fun e s'=>wpAny (model prog w) (A.deeper (envOfC qual scope s.heap.objs.size f cdv)) (leaving (envOfC qual scope s.heap.objs.size f cdv) e) (fun _ s''=>R (.error e) s'') (fun e' s''=>R (.error e') s'') s')
    {s with heap:=ha1,toks:=tk})
  (hco:scope.isCoroutine=false) (hgen:scope.isGenerator=false) (hk:scope.kind=.function):codeAny (model prog w) A (.call (.ref f) args) R s:=by
 refine codeAny_call_function hroom (st _ _ (X _ _ ho)) rfl hco hgen rfl (codeRec_of (X.keeps st) hcd) (hbind _ _ _ _ ?_)
 refine wpAny_newFunctionEnv_cells hk (kindsX hkind _) fun env' he s' x=>?_
 subst he
 refine ⟨(T.nolimit.keeps st).keeps x.toInCall.keep,codeAny_func ?_⟩
 obtain ⟨ha1,tk,rfl,_⟩:=x.done
 have hka1:=x.toInCall.keep
 obtain ⟨cells,NC,Y⟩:=Cl.news (h₀:=s.heap) (vC _) fun n c hm=>⟨x.cell n c (lookup_of_mem_nodup (cellsFrom_names scope.names 0 (s.heap.objs.size+1) [] [] rfl ▸ hnd) hm),x.above n c hm⟩
 refine h ha1 tk cells ⟨x.toInCall.ns,fun y o e=>hka1 y o (st _ _ e),hsz⟩ (fun q hq=>⟨(NC q hq).1,(NC q hq).2.1,?_⟩) Y (fun y o e=>hka1 y o e)
 cases z:b.get? q.1 with
 | none=>rfl
 | some o=>have:=st _ _ z;rw [(NC q hq).2.2] at this;cases this
theorem ff_cut {h base:Heap} {L:Nat} {S:List Addr} {l:List Env} (x:h.FunFrames base l) (lt:∀ a∈framesOf l,a < L) (off:∀ a∈framesOf l,a ∉ S):(cut h L S).FunFrames base l:=yWs x fun a ha _ n g=>⟨n,cut_get (lt a ha) (off a ha) g⟩
end
structure Bs (b h0:Heap) (outer:List Env) (L:Addr) (B:Heap):Prop where
 st:b.StaysIn B
 fr:yQa outer h0 B
 ff:B.FunFrames (fb B outer) outer
 no:B.get? L=none
section
variable {b h0 ha1 h2 h3 B:Heap} {outer:List Env} {L ex:Addr} {m:Str->Option Value} {oc:Obj} {ms nw:List (Addr×Obj)}
theorem yAm (hff:h0.FunFrames b outer) (hk:h0.StaysIn ha1) (hlt:h0.objs.size<=L) (F0:Fr b L ha1 m) (N0:News b L ha1 [(L+1,oc)]) (hms:∀ q∈ms,A3 (h0.get? q.1=some q.2) (b.get? q.1=none) (q.1 ∉ framesOf outer)):
  ∃ B,A4 (Bs b h0 outer L B) (Fr B L ha1 m) (News B L ha1 (ms++[(L+1,oc)])) (∀ q∈ms++[(L+1,oc)],q.1 ∉ L::framesOf outer):=by
 have hs1:∀ x o,h0.get? x=some o->x < L:=fun x o q=>qP (qU q) hlt
 have frL:∀ a∈framesOf outer,a < L:=fun a ha=>by obtain ⟨_,o,ho,_⟩:=hff.mem ha;exact hs1 _ _ ho
 have msm:∀ a,a∈ms.map Prod.fst->∃ q∈ms,q.1=a:=fun a ha=>by obtain ⟨q,hq,e⟩:=wB.mp ha;exact ⟨q,hq,e⟩
 have off:∀ a∈framesOf outer,a ∉ ms.map Prod.fst:=fun a ha z=>by
  obtain ⟨q,hq,rfl⟩:=msm _ z
  obtain ⟨_,_,q3⟩:=hms q hq
  exact q3 ha
 have offb:∀ a o,b.get? a=some o->a ∉ ms.map Prod.fst:=fun a o e z=>by
  obtain ⟨q,hq,rfl⟩:=msm _ z
  obtain ⟨_,q2,_⟩:=hms q hq
  rw [e] at q2;cases q2
 refine ⟨cut ha1 L (ms.map Prod.fst),⟨fun a o q=>cut_get (qP (qU q) F0.above) (offb _ _ q) (F0.keep _ _ q),fun a ha m n=>?_,ff_base (ff_cut (ff_keep hff hk) frL off) fun a ha=>vK _ ha,yVJ (vC _)⟩,⟨F0.ns,yQS,yJq⟩,?_,?_⟩
 ·obtain ⟨o,es,ep,ho,r⟩:=n
  exact ⟨o,es,ep,cut_get (hs1 _ _ ho) (off a ha) (hk _ _ ho),r⟩
 ·intro q hq
  rcases qF.mp hq with hq | hq
  ·obtain ⟨q1,q2,q3⟩:=hms q hq
   exact ⟨hk _ _ q1,vB (hs1 _ _ q1),yJr (wB.mpr ⟨q,hq,rfl⟩)⟩
  ·rw [qC] at hq;subst hq
   exact ⟨(N0 _ (.head _)).1,(N0 _ (.head _)).2.1,yVJ (le_succ _)⟩
 ·intro q hq z
  rcases qF.mp hq with hq | hq
  ·obtain ⟨q1,q2,q3⟩:=hms q hq
   rcases qG.mp z with r | r
   ·exact absurd (hs1 _ _ q1) (by rw [r];exact lt_irrefl _)
   ·exact q3 r
  ·rw [qC] at hq;subst hq
   rcases qG.mp z with r | r
   ·exact absurd r (Nat.succ_ne_self _)
   ·exact absurd (frL _ r) (vX.mpr (le_succ _))
end
namespace K_nl_caught3
def zP (b h0 ha1 h2 h3 B:Heap) (outer:List Env) (L ex:Addr) (m:Str->Option Value) (nw:List (Addr×Obj)) (env:Env) (a0:Value):Prop:=∀ (hff:h0.FunFrames b outer) (hk:h0.StaysIn ha1) (hlt:h0.objs.size<=L) (F:Fr B L ha1 m) (N0:News B L ha1 nw) (bs:Bs b h0 outer L B) (hbn:∀ q∈nw,b.get? q.1=none) (kn:∀ q∈nw,q.1 ∉ L::framesOf outer) (hx:Heap.NewExc ha1 h2 ex "TypeError") (hen:(hideAll ha1 (L::framesOf outer)).get? ex=none) (st3:(hideAll ha1 (L::framesOf outer)).StaysIn h3) (ff3:h3.FunFrames (hideAll ha1 (L::framesOf outer)) (env::outer)) (tr3:h3.TracedW (hideAll ha1 (L::framesOf outer)) ex (.type "TypeError") a0) (up3:ha1.UpToSlots h3),
  X6 fun oe vs TT oT ts B3=>A9 (Fr B3 L h3 m) (News B3 L h3 ((ex,oe)::(TT,oT)::nw)) (Bs b h0 outer L B3) (oe.cls=.type "TypeError") (oe.data=.fields vs) (vs[1]?=some (.ref TT)) (oT.data=.fields ts) (3 < ts.size) (∀ q∈nw,q.1≠TT)
def zc:=ep (U13 zP) ⟨(default,default,default,default,default,default,[],0,0,fun O=>none,[],default,.none)⟩
def zd1:=zc.2.2.2.2.2.2.2.2
def b:=zc.1
def h0:=zc.2.1
def ha1:=zc.2.2.1
def h3:=zc.2.2.2.2.1
def outer:=zc.2.2.2.2.2.2.1
def L:=zc.2.2.2.2.2.2.2.1
def ex:=zd1.1
def m:=zd1.2.1
def nw:=zd1.2.2.1
theorem zh:zP b h0 ha1 zc.2.2.2.1 h3 zc.2.2.2.2.2.1 outer L ex m nw zd1.2.2.2.1 zd1.2.2.2.2:=by
 intro hff hk hlt F N0 bs hbn kn hx hen st3 ff3 tr3 up3
 have hs1:∀ x o,h0.get? x=some o->x < L:=fun x o q=>qP (qU q) hlt
 have stB:=bs.st
 obtain ⟨oe,vs,TT,oT,ts,g1,⟨g2,g2'⟩,g3,g4,g5,g6,g7,g8,g9⟩:=tr3
 have hL1:=yQk F.ns
 have exL:ex≠L:=fun q=>by obtain ⟨o,ho⟩:=hL1;rw [q] at hx;rw [hx.new] at ho;cases ho
 have TL:TT≠L:=fun q=>by
  obtain ⟨o,es,ep,ho,hdd,_⟩:=up3.ns F.ns
  rw [<- q,g7] at ho;cases ho;rw [g8] at hdd;cases hdd
 have keep3:∀ a o,ha1.get? a=some o->a ∉ L::framesOf outer->h3.get? a=some o:=fun a o q1 q2=>st3 _ _ (vJ _ q1 q2)
 have frL:∀ a∈framesOf outer,a < L:=fun a ha=>by obtain ⟨_,o,ho,_⟩:=hff.mem ha;exact hs1 _ _ ho
 have bH:b.StaysIn (hideAll ha1 (L::framesOf outer)):=fun a o q=>vJ _ (F.keep _ _ (stB _ _ q)) fun z=>by
  rcases qG.mp z with r | r
  ·have:=qU (stB _ _ q);rw [r] at this;exact absurd this (vX.mpr F.above)
  ·obtain ⟨n0,_⟩:=hff.mem r;rw [q] at n0;cases n0
 have nT:∀ q∈nw,q.1≠TT:=fun q hq r=>by rw [<- r,vJ _ (N0 q hq).1 (kn q hq)] at g5;cases g5
 have mem3:∀ a,a∈ex::TT::nw.map Prod.fst->a=ex\/a=TT\/∃ q∈nw,q.1=a:=fun a ha=>by
  rcases qG.mp ha with r | ha
  ·exact .inl r
  rcases qG.mp ha with r | ha
  ·exact .inr (.inl r)
  ·obtain ⟨q,hq,e⟩:=wB.mp ha;exact .inr (.inr ⟨q,hq,e⟩)
 have notin:∀ a∈framesOf outer,a ∉ ex::TT::nw.map Prod.fst:=fun a ha y=>by
  obtain ⟨_,o,ho,hd⟩:=hff.mem ha
  rcases mem3 a y with rfl | rfl | ⟨q,hq,rfl⟩
  ·have hn:=hx.new;rw [hk _ _ ho] at hn;cases hn
  ·obtain ⟨sl,z⟩:=up3 _ _ (hk _ _ ho) hd
   rw [g7] at z;cases z;exact hd _ g8
  ·exact kn q hq (.tail _ ha)
 refine ⟨oe,vs,TT,oT,ts,cut h3 L (ex::TT::nw.map Prod.fst),⟨up3.ns F.ns,yQS,yJq⟩,fun q hq=>?_,⟨fun a o q=>cut_get (qP (qU (stB _ _ q)) F.above) (fun z=>?_) (st3 _ _ (bH _ _ q)),fun a ha m n=>?_,?_,yVJ (vC _)⟩,g2,g3,g4,g8,(Array.getElem?_eq_some_iff.mp g9).1,nT⟩
 ·rcases qG.mp hq with rfl | hq
  ·exact ⟨g1,exL,yJr (.head _)⟩
  rcases qG.mp hq with rfl | hq
  ·exact ⟨g7,TL,yJr (.tail _ (.head _))⟩
  ·exact ⟨keep3 _ _ (N0 q hq).1 (kn q hq),(N0 q hq).2.1,yJr (.tail _ (.tail _ (wB.mpr ⟨q,hq,rfl⟩)))⟩
 ·rcases mem3 a z with rfl | rfl | ⟨q',hq,rfl⟩
  ·rw [none_sub bH hen] at q;cases q
  ·rw [none_sub bH g5] at q;cases q
  ·rw [hbn q' hq] at q;cases q
 ·obtain ⟨o,es,ep,ho,hdd,r⟩:=n
  obtain ⟨sl,z⟩:=up3 _ _ (hk _ _ ho) fun vs q=>by rw [hdd] at q;cases q
  exact ⟨_,es,ep,cut_get (frL a ha) (notin a ha) z,hdd,r⟩
 ·exact ff_base (ff_cut ff3.2.2 frL notin) fun a ha=>vK _ ha
end K_nl_caught3
theorem yXL {b h0 ha1 h2 h3 B outer L ex m nw env a0}:K_nl_caught3.zP b h0 ha1 h2 h3 B outer L ex m nw env a0:=eps (P:=U13 K_nl_caught3.zP) K_nl_caught3.zh (b,h0,ha1,h2,h3,B,outer,L,ex,m,nw,env,a0)
section
variable {A:Around} {s:Shared} {E:VS}
theorem yYH:typeLookup (.type "map") (Str.ofString "__len__")=pure none:=by rw [typeLookup_type,builtinLookup_eq_fast];kernel_rfl
theorem yWz {it TI fq:Addr} {Q:VS} (hl:s.heap.get? it=some (mapObj TI fq)) (hh:A.handled=none)
  (h:∀ h' tk e,Heap.NewExc s.heap h' e "TypeError"->E (.ref e) {s with heap:=h',toks:=tk}):wpAny (model prog w) A (call (.builtin "len") [.ref it]) Q E s:=by
 refine Calls.call_function_entry kind_len plain_len entry_len (args_len1 _) ?_
 unfold Builtin.«len»
 refine qA (m:=oneArg "len" _) (qI ?_)
 refine qA (m:=callSpecial? _ (Str.ofString "__len__")) (wpAny_callSpecial?_none (name:=Str.ofString "__len__") (T:="map") ⟨_,hl,rfl⟩ yYH ?_)
 dsimp only
 refine qA (vI (qA (wpAny_typeNameOf' (T:="map") ⟨_,hl,rfl⟩ (by decide) ?_)))
 have e:shownName "map"="map":=by unfold shownName;rw [find?_eq_fast];kernel_rfl
 rw [e]
 exact wpAny_raiseTypeError hh h
theorem yVK {it:Addr} {o:Obj} {Q:VS} (hi:yJI o) (hl:s.heap.get? it=some o) (hh:A.handled=none)
  (h:∀ h' tk e,Heap.NewExc s.heap h' e "TypeError"->E (.ref e) {s with heap:=h',toks:=tk}):wpAny (model prog w) A (call (.builtin "len") [.ref it]) Q E s:=by
 rcases hi with ⟨l,k,rfl⟩ | ⟨TI,fq,rfl⟩
 ·exact yXb hl hh h
 ·exact yWz hl hh h
theorem yVl {it:Addr} {o:Obj} {Q:VS} (hi:yJI o) (hl:s.heap.get? it=some o) (h:Q (.ref it) s):wpAny (model prog w) A (call (.builtin "iter") [.ref it]) Q E s:=
 yQT (y:=.none) (pyIter_self hi hl h)
end
def yCa (rv:Nat->Value) (more:It->List Value) (u:It) (o:Obj):Prop:=X2 fun ti mm=>o={ cls:=.type "tuple",data:=.seq (rv (pl u)::.int u.i ti::more u).toArray mm }
section
variable {M:Int} {raw:Nat->Rw} {rv:Nat->Value} {more:It->List Value} {e:Nat->Value} {dn:Bool} {ts:List (Addr×Obj)} {its:List It} {m N:Nat} {od:Int} {h:Heap} {D:Addr} {items:Array Value} {c:Nat}
theorem yVa (I:yQA (fun j p=>sc M j (raw p)) e (yCa rv more) dn ts its m od) (hm:∀ u,more u=[]\/∃ x,more u=[x]) (hv:∀ p,p < m->IsV (rv p) (raw p)) (hD:h.get? D=some (listOf items c)) (ht:∀ q∈ts,h.get? q.1=some q.2):∀ u∈its,Val M (RG raw m) (hideAll h [D]) u:=by
 intro u hu
 obtain ⟨T,o,p,q1,q2,q3,q4,q5,ti,mm,rfl⟩:=I.good u hu
 have gT:=ht _ q5
 have hp:pl u=p:=yJJ (x:=fun j p=>sc M j (raw p)) q2
 rw [hp] at gT
 refine ⟨T,ti,mm,rv p,raw p,more u,q1,vJ _ gT fun z=>?_,hv p q4,⟨p,q4,rfl⟩,by rw [q2];exact ⟨rfl,rfl⟩,hm u⟩
 rw [qC] at z;rw [z] at gT;rw [hD] at gT
 have:=wE Obj.cls (wD gT);simp [W.listOf] at this
end
structure yCb (prog:Program) (w:World) (b:Heap) (kv:Value) (N:Nat) (raw:Nat->Rw) (e rv:Nat->Value) (IT:Addr) (Ms:List Addr) (St Mid Rd:Nat->Heap->Prop):Prop where
 fn:yWE prog w b IT kv N raw e Ms St Mid
 fe:yVM prog w b IT N Ms St
 ls:yQU Ms St
 lm:yQU Ms Mid
 am:yJD Ms Mid
 as:yJD Ms St
 way:(kv=.none/\(∀ j,j < N->e j=rv j)/\∀ j h,Mid j h->raw j≠.thorn/\St (j+1) h)\/∃ fq,kv=.ref fq/\yZM prog w b fq N raw e rv Ms St Mid
 rd:∀ j h,St j h->Rd j h
 it:∀ j (A:Around) (s:Shared) (Q:VS) (E:VS),St j s.heap->b.StaysIn s.heap->Q (.ref IT) s->wpAny (model prog w) A (pyIter (.ref IT)) Q E s
def WayK (prog:Program) (w:World) (b h0:Heap) (SRC:Addr) (kv:Value) (N:Nat) (raw:Nat->Rw) (e rv:Nat->Value) (LOG:Addr) (lo:Obj) (ms0:List (Addr×Obj)) (Rd:Nat->Heap->Prop):Prop:=
 X4 fun fq fo LST cL=>A7 (kv=.ref fq) (b.get? fq=some fo/\∃ fd,fo.data=.func fd) (yZR prog w b LOG N raw (fun j x=>x=e j) rv fq) (b.get? LST=some (listOf ((List.range N).map e).toArray cL)) (b.get? LOG=none/\yQI 0 lo)
  ((SRC=LST/\ms0=[(LOG,lo)]/\Rd=LG LOG)\/(h0.get? SRC=some (liObj LST 0)/\SRC≠LOG/\ms0=[(SRC,liObj LST 0),(LOG,lo)]/\Rd=StL LST LOG SRC N)) (∀ j,j < N->X3 fun a vs c=>e j=.ref a/\b.get? a=some (listOf vs c))
def WayS (prog:Program) (w:World) (b:Heap) (SRC:Addr) (kv:Value) (N:Nat) (raw:Nat->Rw) (e rv:Nat->Value) (LOG:Addr) (lo:Obj) (ms0:List (Addr×Obj)) (Rd:Nat->Heap->Prop):Prop:=
 X4 fun fq TI RI T=>A10 (kv=.none) (∀ j,j < N->e j=rv j) (b.get? SRC=some (mapObj TI fq)) (b.get? TI=some (oneObj (.ref RI))) (RgT T) (RI≠LOG) (b.get? RI=none) (yZR prog w b LOG N raw (fun j x=>∃ t,x=.int j t) rv fq) (ms0=[(RI,rgObj T (0+((0:Nat):Int) * 1) ((N:Int) - ((0:Nat):Int)) 1),(LOG,lo)]) (yQI 0 lo/\Rd=StS T LOG RI N)
def yZQ (prog:Program) (w:World) (b h0:Heap) (SRC:Addr) (kv:Value) (N:Nat) (raw:Nat->Rw) (e rv:Nat->Value) (LOG:Addr) (lo:Obj) (ms0:List (Addr×Obj)) (Rd:Nat->Heap->Prop):Prop:=
 WayK prog w b h0 SRC kv N raw e rv LOG lo ms0 Rd\/WayS prog w b SRC kv N raw e rv LOG lo ms0 Rd
section
variable {A:Around} {s:Shared} {E:VS} {b B h0:Heap} {SRC LOG L:Addr} {kv:Value} {N:Nat} {raw:Nat->Rw} {e rv:Nat->Value} {lo:Obj} {ms0 rest:List (Addr×Obj)} {Rd:Nat->Heap->Prop} {m:Str->Option Value} {Q:VS}
theorem yBe {LST IT:Addr}:yJD [IT,LOG] (StL LST LOG IT N):=fun j h ⟨h1,lo,h2,_⟩ a ha=>by
 simp only [qG,wG,or_false] at ha
 rcases ha with rfl | rfl
 ·rcases h1 with h1 | ⟨_,h1⟩<;>exact ⟨_,h1⟩
 ·exact ⟨_,h2⟩
theorem yCV {LST IT:Addr}:yJD [IT,LOG] (yCY LST LOG IT):=fun j h ⟨h1,lo,h2,_⟩ a ha=>by
 simp only [qG,wG,or_false] at ha
 rcases ha with rfl | rfl
 ·exact ⟨_,h1⟩
 ·exact ⟨_,h2⟩
theorem yZG {T:String} {RI:Addr}:yJD [RI,LOG] (StS T LOG RI N):=fun j h ⟨h1,lo,h2,_⟩ a ha=>by
 simp only [qG,wG,or_false] at ha
 rcases ha with rfl | rfl
 ·exact ⟨_,h1⟩
 ·exact ⟨_,h2⟩
theorem srcK_list {LST fq IT:Addr} {cL:Nat} (hk:yZR prog w b LOG N raw (fun j x=>x=e j) rv fq) (hL:b.get? LST=some (listOf ((List.range N).map e).toArray cL)) (hne:IT≠LOG) (hrd:∀ j h,StL LST LOG IT N j h->Rd j h):yCb prog w b (.ref fq) N raw e rv IT [IT,LOG] (StL LST LOG IT N) (yCY LST LOG IT) Rd:=
 ⟨yXS hne hL,yXU hne hL,yCI,yDz,yCV,yBe,.inr ⟨fq,rfl,yXT hne hk⟩,hrd,fun j A s Q E x _ q=>x.1.elim (fun z=>yQG z rfl q) fun z=>yQG z.2 rfl q⟩
theorem yJz (hway:yZQ prog w b h0 SRC kv N raw e rv LOG lo ms0 Rd) (F:Fr B L s.heap m) (Nw:News B L s.heap (ms0++rest)) (hb:b.StaysIn B)
  (k:∀ IT oI ms1 Ms St Mid h',yCb prog w b kv N raw e rv IT Ms St Mid Rd->A9 (yJI oI) (h'.get? IT=some oI) (∀ h,B.StaysIn h->(∀ q∈ms1,h.get? q.1=some q.2)->h.get? IT=some oI) (Fr B L h' m) (News B L h' (ms1++rest)) (ms1.map Prod.fst=Ms) (St 0 h') (s.heap.StaysIn h') (∀ a∈Ms,a∈ms0.map Prod.fst\/s.heap.get? a=none)->Q (.ref IT) {s with heap:=h'}):
  wpAny (model prog w) A (call (.builtin "iter") [.ref SRC]) Q E s:=by
 rcases hway with ⟨fq,fo,LST,cL,rfl,_,hk,hL,⟨_,hlo⟩,⟨rfl,rfl,rfl⟩ | ⟨_,hne,rfl,rfl⟩,_⟩ | ⟨fq,TI,RI,T,rfl,her,hz,hTI,hT,hne,hRb,hk,rfl,hlo,rfl⟩
 ·have gl:=Nw _ (qF.mpr (.inl (.head _)))
  refine yQE (F.keep _ _ (hb _ _ hL)) ?_
  have nl:s.heap.objs.size≠LOG:=fun q=>by have:=qU gl.1;dsimp only at this;rw [<- q] at this;exact lt_irrefl _ this
  have z:=Nw.push F (liObj SRC 0)
  refine k _ _ [(s.heap.objs.size,liObj SRC 0),(LOG,lo)] _ _ _ _ (srcK_list hk hL nl fun j h q=>q.2) ⟨.inl ⟨_,_,rfl⟩,qX _ rfl,(fun h _ q=>q _ (.head _)),F.push _,fun q hq=>z q hq,rfl,⟨.inl (qX _ rfl),lo,qS _ gl.1,hlo⟩,fun _ _ q=>qS _ q,fun a ha=>by
   rcases qG.mp ha with r | ha
   ·exact .inr (by rw [r];exact qV (vC _))
   ·exact .inl ha⟩
 ·have gi:=Nw _ (qF.mpr (.inl (.head _)))
  have gl:=Nw _ (qF.mpr (.inl (.tail _ (.head _))))
  exact yWA gi.1 (k _ _ _ _ _ _ _ (srcK_list hk hL hne fun j h q=>q) ⟨.inl ⟨_,_,rfl⟩,gi.1,(fun h _ q=>q _ (.head _)),F,Nw,rfl,⟨.inl gi.1,lo,gl.1,hlo⟩,fun _ _ q=>q,fun a ha=>.inl ha⟩)
 ·have gi:=Nw _ (qF.mpr (.inl (.head _)))
  have gl:=Nw _ (qF.mpr (.inl (.tail _ (.head _))))
  have hnz:RI≠SRC:=fun q=>by rw [q,hz] at hRb;cases hRb
  have hS:yCb prog w b .none N raw e rv SRC [RI,LOG] (StS T LOG RI N) (yDL T LOG RI N raw) (StS T LOG RI N):=
   ⟨fun j A outer b' s Q E hj a1 a2 a3 a4 a5 a6 a7 a8 a9 a10 a11 a12=>by rw [her j hj] at a11;exact yZk hT hne hnz hz hTI hk j A outer b' s Q E hj a1 a2 a3 a4 a5 a6 a7 a8 a9 a10 a11 a12,yZl hT hz hTI,yBF,yDy,fun j h q=>yZG _ _ q.2,yZG,.inl ⟨rfl,her,fun j h q=>q⟩,fun j h q=>q,fun j A s Q E _ x q=>pyIter_self (.inr ⟨_,_,rfl⟩) (x _ _ hz) q⟩
  exact yVl (.inr ⟨_,_,rfl⟩) (F.keep _ _ (hb _ _ hz)) (k _ _ _ _ _ _ _ hS ⟨.inr ⟨_,_,rfl⟩,F.keep _ _ (hb _ _ hz),(fun h q _=>q _ _ (hb _ _ hz)),F,Nw,rfl,⟨gi.1,lo,gl.1,hlo⟩,fun _ _ q=>q,fun a ha=>.inl ha⟩)
theorem yWc {S:Addr} {o:Obj} {q:Nat} (hway:yZQ prog w b h0 SRC kv N raw e rv LOG lo ms0 Rd) (hv:yZI N raw rv) (hq:q < N) (hn:raw q≠.thorn) (hb:b.StaysIn s.heap) (hS:b.get? S=none) (gS:s.heap.get? S=some o) (h:Q (.bool false) s):wpAny (model prog w) A (compareOp .Is (e q) (.ref S)) Q E s:=by
 rcases hway with ⟨_,_,_,_,_,_,_,_,_,_,h7⟩ | ⟨_,_,_,_,_,her,_⟩
 ·obtain ⟨a,vs,c,e1,e2⟩:=h7 q hq
  rw [e1]
  exact wpAny_is_ref_other (fun z=>by rw [z,hS] at e2;cases e2) (hb _ _ e2) gS (by simp [W.listOf]) h
 ·rw [her q hq]
  have z:=hv q hq hn
  cases r:raw q<;>rw [r] at z
  ·obtain ⟨t,z⟩:=z;rw [z];exact wpAny_is_other rfl (fun z=>by cases z) h
  ·rw [show rv q=.bool _ from z];exact wpAny_is_other rfl (fun z=>by cases z) h
  ·obtain ⟨_,t,z⟩:=z;rw [z];exact wpAny_is_other rfl (fun z=>by cases z) h
  ·exact z.elim
theorem yCb.wayC {IT:Addr} {Ms:List Addr} {St Mid:Nat->Heap->Prop} {outer:List Env} (hS:yCb prog w b kv N raw e rv IT Ms St Mid Rd) (hd:A.depth<=498) (hu:A.units<=790) (hh:A.handled=none) (hfr:A.frames=some outer) (hff:B.FunFrames (fb B outer) outer) (hb:b.StaysIn B):yDh prog w A B outer kv N raw e rv Ms St Mid:=
 hS.way.imp id fun ⟨fq,h1,h2⟩=>⟨fq,h1,yBX h2 hd hu hh hfr hff hb⟩
end
section
variable {T:String} {MM:Model} {A:Around} {E:VS} {s:Shared} {b B h0 H h':Heap} {outer:List Env} {L ex:Addr} {m:Str->Option Value} {env:Env} {Ms0:List Addr} {Rd:Nat->Heap->Prop} {r:Nat} {mm:Str} {t:Tok} {tk:Nat} {Wd:Str->Prop} {b2 B':Heap}
theorem yWt (F:Fr B L H m) (bs:Bs b h0 outer L B) (hRd:Rd r H) (lR:yQU Ms0 Rd) (hM:∀ a∈Ms0,a < L/\a ∉ framesOf outer) (hk:env.scope.kind=.function) (hf:env.frame=some L):
  ∃ b2,A6 ((fb b outer).StaysIn b2) (Rd r b2) (H.FunFrames b2 (env::outer)) (b2.StaysIn H) (yQa outer h0 H) (b2.get? L=none):=by
 have BC:B.StaysIn (cut H L []):=fun a o q=>cut_get (qP (qU q) F.above) (fun z=>nomatch z) (F.keep _ _ q)
 have FC:Fr (cut H L []) L H m:=⟨F.ns,yQS,yJq⟩
 refine ⟨fb (cut H L []) outer,fb_mono fun _ _ q=>BC _ _ (bs.st _ _ q),lR _ _ _ hRd fun a ha o q=>vJ _ (cut_get (hM a ha).1 (fun z=>nomatch z) q) (hM a ha).2,ff_push FC (ff_up bs.ff BC) (fb_none FC) hk hf,fb_stays yQS,bs.fr.trans (yQa.of_keeps F.keep),fb_none FC⟩
theorem yZn (hT:∀ ex h' tk b2,(fb b outer).StaysIn b2->Rd r b2->yQs T b2 outer h0 (·=mm) ex h'->E (.ref ex) {s with heap:=h',toks:=tk}) (hfr:A.frames=some outer) (F:Fr B L H m) (bs:Bs b h0 outer L B) (hRd:Rd r H) (lR:yQU Ms0 Rd) (hM:∀ a∈Ms0,a < L/\a ∉ framesOf outer) (hx:Heap.MadeExc H h' ex T [.str mm t]) (hk:env.scope.kind=.function:=by rfl) (hf:env.frame=some L:=by rfl):
  wpAny MM (A.deeper env) (leaving env (.ref ex)) (fun _ s''=>E (.ref ex) s'') (fun e' s''=>E e' s'') {s with heap:=h',toks:=tk}:=by
 obtain ⟨b2,g1,g2,g3,g4,g5,g6⟩:=yWt (env:=env) F bs hRd lR hM hk hf
 exact yWq (s:={s with heap:=h',toks:=tk}) (Wd:=(·=mm)) (vO hfr) hf g3 g4 hx rfl g5 fun h'' fl=>hT ex h'' tk b2 g1 g2 fl
theorem yBO (hT:∀ ex h' tk b2,(fb b outer).StaysIn b2->Rd r b2->yQs T b2 outer h0 (·=mm) ex h'->E (.ref ex) {s with heap:=h',toks:=tk}) (hfr:A.frames=some outer) (F:Fr B L H m) (bs:Bs b h0 outer L B) (hL0:h0.get? L=none) (hRd:Rd r H) (lR:yQU Ms0 Rd) (hM:∀ a∈Ms0,a < L/\a ∉ framesOf outer) (hx:Heap.MadeExc H h' ex T [.str mm t]) (hk:env.scope.kind=.function:=by rfl) (hf:env.frame=some L:=by rfl):
  notedBy MM (A.deeper env) env (cameBackBy MM (A.deeper env) env (fun e s'=>wpAny MM (A.deeper env) (leaving env e) (fun _ s''=>E e s'') (fun e' s''=>E e' s'') s')) (.ref ex) {s with heap:=h',toks:=tk}:=by
 obtain ⟨b2,g1,g2,g3,g4,g5,g6⟩:=yWt (env:=env) F bs hRd lR hM hk hf
 refine yVv (s:={s with heap:=h',toks:=tk}) (Wd:=(·=mm)) (h0:=h0) (vO hfr) hf g3 g4 hx rfl (fun a ha m' n=>?_) fun h'' hx=>yQH (s:={s with heap:=h'',toks:=tk}) hf hx fun h3 fl=>hT ex h3 tk b2 g1 g2 fl
 rcases qG.mp (show a∈L::framesOf outer from (by rw [yQh hf] at ha;exact ha)) with rfl | ha
 ·obtain ⟨o,_,_,ho,_⟩:=n
  rw [hL0] at ho;cases ho
 ·exact g5 a ha m' n
theorem yWu (hV:∀ ex h' tk b2,(fb b outer).StaysIn b2->Rd r b2->yQs T b2 outer h0 Wd ex h'->E (.ref ex) {s with heap:=h',toks:=tk}) (hfr:A.frames=some outer) (bs:Bs b h0 outer L B) (hb2:(fb B outer).StaysIn b2) (hRd:Rd r b2) (fl:yQs T b2 (env::outer) B' Wd ex h') (fr:yQa outer B B') (hf:env.frame=some L:=by rfl):
  wpAny MM (A.deeper env) (leaving env (.ref ex)) (fun _ s''=>E (.ref ex) s'') (fun e' s''=>E e' s'') {s with heap:=h',toks:=tk}:=
 yAZ (s:={s with heap:=h',toks:=tk}) (vO hfr) hf fl fun h'' f2=>hV ex h'' tk b2 (fun _ _ q=>hb2 _ _ (fb_mono bs.st _ _ q)) hRd (f2.from (bs.fr.trans fr))
theorem yZm (hV:∀ ex h' tk b2,(fb b outer).StaysIn b2->Rd r b2->yQs T b2 outer h0 Wd ex h'->E (.ref ex) {s with heap:=h',toks:=tk}) (hfr:A.frames=some outer) (bs:Bs b h0 outer L B) (hb2:(fb B outer).StaysIn b2) (hRd:Rd r b2) (fl:yQs T b2 (env::outer) B' Wd ex h') (fr:yQa outer B B') (hf:env.frame=some L:=by rfl):
  notedBy MM (A.deeper env) env (cameBackBy MM (A.deeper env) env (fun e s'=>wpAny MM (A.deeper env) (leaving env e) (fun _ s''=>E e s'') (fun e' s''=>E e' s'') s')) (.ref ex) {s with heap:=h',toks:=tk}:=
 yYV (s:={s with heap:=h',toks:=tk}) (vO hfr) hf fl fun h'' hx=>yQH (s:={s with heap:=h'',toks:=tk}) hf hx fun h3 f2=>hV ex h3 tk b2 (fun _ _ q=>hb2 _ _ (fb_mono bs.st _ _ q)) hRd (f2.from (bs.fr.trans fr))
theorem yBc (hV:∀ ex h' tk b2,(fb b outer).StaysIn b2->Rd r b2->yQs T b2 outer h0 Wd ex h'->E (.ref ex) {s with heap:=h',toks:=tk}) (bs:Bs b h0 outer L B) (hb2:(fb B outer).StaysIn b2) (hRd:Rd r b2) (hx:yQB T b2 (env::outer) B Wd L ex h') (hf:env.frame=some L:=by rfl):
  wpAny MM (A.deeper env) (leaving env (.ref ex)) (fun _ s''=>E (.ref ex) s'') (fun e' s''=>E e' s'') {s with heap:=h',toks:=tk}:=
 yQH (s:={s with heap:=h',toks:=tk}) hf hx fun h3 f2=>hV ex h3 tk b2 (fun _ _ q=>hb2 _ _ (fb_mono bs.st _ _ q)) hRd (f2.from bs.fr)
end
noncomputable def wdT (dn:Bool) (wish:Int) (raw:Nat->Rw) (j q:Nat):Str:=if wish=1 then wds (if dn then ">" else "<") (raw j).kd (raw q).kd else if dn then wds "<" (raw q).kd (raw j).kd else wds "<" (raw j).kd (raw q).kd
def Tw (dn:Bool) (M:Int) (raw:Nat->Rw) (N:Nat) (wish:Int) (r:Nat) (m:Str):Prop:=
 A3 (r=min N wish.toNat) (∀ i,i < r->raw i≠.thorn) (WdK (RG raw r) m)\/X2 fun j q=>A8 (r=j+1) (j < N) (wish<=j) (Fst raw j) (raw j≠.thorn/\(raw j).t≠(raw 0).t) (∀ i,i < 2->q=(ordD (scR dn M raw i) j).getD (wish.toNat - 1) 0) (q < j) (m=wdT dn wish raw j q)
theorem yVZ {f:Nat->Int} {n i j:Nat} (hij:i<=j) (hj:j < n):f ((ordD f n).getD j 0)<=f ((ordD f n).getD i 0):=by
 have hl:(ordD f n).length=n:=ordD_len n
 rcases Nat.lt_or_eq_of_le hij with h | h
 ·have hj':j < (ordD f n).length:=by rw [hl];exact hj
  have hi':=vV h hj'
  have:=pairwise_iff_getElem.mp (ordD_pw (sc:=f) n) i j hi' hj' h
  rw [qR,qR,qT hi',qT hj']
  exact this.elim (fun z=>Int.le_of_lt z) fun z=>Int.le_of_eq z.1.symm
 ·rw [h];exact Int.le_refl _
theorem yYF {f:Nat->Int} {n p:Nat} (hp:p < n):∃ i,i < n/\(ordD f n).getD i 0=p:=by
 obtain ⟨i,hi,e⟩:=getElem_of_mem (ordD_mem (sc:=f).mpr hp)
 refine ⟨i,by rw [ordD_len] at hi;exact hi,?_⟩
 rw [qR,qT hi];exact e
theorem yXK {f:Nat->Int} {n p:Nat} (hp:p < n):f p<=f ((ordD f n).getD 0 0):=by
 obtain ⟨i,hi,e⟩:=yYF (f:=f) hp
 have:=yVZ (f:=f) (vZ i) hi
 rw [e] at this;exact this
theorem yYD {f:Nat->Int} {n p:Nat} (hp:p < n):f ((ordD f n).getD (n - 1) 0)<=f p:=by
 obtain ⟨i,hi,e⟩:=yYF (f:=f) hp
 have:=yVZ (f:=f) (Nat.le_sub_one_of_lt hi) (Nat.sub_lt (vR (vZ _) hi) Nat.one_pos)
 rw [e] at this;exact this
theorem rk_le (k:Nat):rk k<=30:=by
 have:=List.length_filter_le (fun j=>decide ((txS j).cps.toList < (txS k).cps.toList)) (List.range 30)
 rw [length_range] at this;exact this
theorem tz {r:Rw} (h:r.t=true):0<=r.z/\r.z<=30:=by
 cases r with
 | txt k=>exact ⟨vM _,Int.ofNat_le.mpr (rk_le k)⟩
 | _=>cases h
theorem np21 {M a b:Int} (h1:-M<=a) (h2:a<=b - M - 31) (h3:b<=30):False:=
 Int.lt_irrefl _ (Int.lt_of_le_of_lt (Int.le_trans h1 h2) (by rw [Int.sub_sub,Int.add_comm M,<- Int.sub_sub];exact Int.zero_sub M ▸ Int.sub_lt_sub_right (Int.sub_neg_of_lt (Int.lt_of_le_of_lt h3 (by decide))) M))
theorem yVS {M:Int} {raw:Nat->Rw} {n q:Nat} (hM:∀ p,p < n->(raw p).t=false->-M<=(raw p).z/\(raw p).z<=M) (hq:q < n) (h:(∀ j,j < 2->∀ p,p < n->sc M j (raw p)<=sc M j (raw q))\/(∀ j,j < 2->∀ p,p < n->sc M j (raw q)<=sc M j (raw p))):∀ p,p < n->(raw p).t=(raw q).t:=by
 intro p hp
 have s0:∀ r:Rw,r.t=true->sc M 0 r=M+1+r.z:=fun r e=>by unfold sc;rw [qN e,qN rfl]
 have s1:∀ r:Rw,r.t=true->sc M 1 r=r.z - M - 31:=fun r e=>by unfold sc;rw [qN e,qM (by decide)]
 have sf:∀ j,∀ r:Rw,r.t=false->sc M j r=r.z:=fun j r e=>by unfold sc;rw [qM (by rw [e];decide)]
 rcases h with h | h
 ·cases ep:(raw p).t with
  | true=>
   cases eq:(raw q).t with
   | true=>rfl
   | false=>
    have a:=h 0 (by decide) p hp
    rw [s0 _ ep,sf _ _ eq] at a
    have b:=(hM q hq eq).2
    have c:=(tz ep).1
    exact absurd (Int.le_trans a b) (Int.not_le.mpr (Int.lt_of_lt_of_le (Int.lt_succ M) (Int.le_add_of_nonneg_right c)))
  | false=>
   cases eq:(raw q).t with
   | false=>rfl
   | true=>
    have a:=h 1 (by decide) p hp
    rw [s1 _ eq,sf _ _ ep] at a
    have b:=(hM p hp ep).1
    have c:=(tz eq).2
    exact (np21 b a c).elim
 ·cases ep:(raw p).t with
  | true=>
   cases eq:(raw q).t with
   | true=>rfl
   | false=>
    have a:=h 1 (by decide) p hp
    rw [s1 _ ep,sf _ _ eq] at a
    have b:=(hM q hq eq).1
    have c:=(tz ep).2
    exact (np21 b a c).elim
  | false=>
   cases eq:(raw q).t with
   | false=>rfl
   | true=>
    have a:=h 0 (by decide) p hp
    rw [s0 _ eq,sf _ _ ep] at a
    have b:=(hM p hp ep).2
    have c:=(tz eq).1
    exact absurd (Int.le_trans a b) (Int.not_le.mpr (Int.lt_of_lt_of_le (Int.lt_succ M) (Int.le_add_of_nonneg_right c)))
theorem yXk {dn:Bool} {M:Int} {raw:Nat->Rw} {j p q:Nat}:scR dn M raw j p<=scR dn M raw j q↔(if dn=true then sc M j (raw p)<=sc M j (raw q) else sc M j (raw q)<=sc M j (raw p)):=by
 unfold scR scD
 cases dn
 ·simp only [wH,if_false,Int.neg_le_neg_iff]
 ·simp only [if_true]
theorem yXE {dn:Bool} {M:Int} {raw:Nat->Rw} {n q:Nat} (hM:∀ p,p < n->(raw p).t=false->-M<=(raw p).z/\(raw p).z<=M) (hn:∀ i,i < n->raw i≠.thorn) (hq:∀ j,j < 2->q=(ordD (scR dn M raw j) n).getD 0 0):Fst raw n:=by
 intro i hi
 have h0:0 < n:=vR (vZ _) hi
 have hqn:q < n:=by rw [hq 0 (by decide)];exact yXJ h0
 have hc:∀ j,j < 2->∀ p,p < n->scR dn M raw j p<=scR dn M raw j q:=fun j hj p hp=>by rw [hq j hj];exact yXK hp
 have k:=yVS hM hqn (by
  cases dn
  ·exact .inr fun j hj p hp=>by have:=yXk.mp (hc j hj p hp);simpa using this
  ·exact .inl fun j hj p hp=>by have:=yXk.mp (hc j hj p hp);simpa using this)
 exact ⟨hn i hi,(k i hi).trans (k 0 h0).symm⟩
theorem yYx {dn:Bool} {M:Int} {raw:Nat->Rw} {n q:Nat} (hM:∀ p,p < n->(raw p).t=false->-M<=(raw p).z/\(raw p).z<=M) (hn:∀ i,i < n->raw i≠.thorn) (hq:∀ j,j < 2->q=(ordD (scR dn M raw j) n).getD (n - 1) 0):Fst raw n:=by
 intro i hi
 have h0:0 < n:=vR (vZ _) hi
 have hqn:q < n:=by
  rw [hq 0 (by decide)]
  have hl:n - 1 < (ordD (scR dn M raw 0) n).length:=by rw [ordD_len];exact Nat.sub_lt h0 Nat.one_pos
  rw [qR,qT hl]
  exact ordD_mem.mp (wK hl)
 have hc:∀ j,j < 2->∀ p,p < n->scR dn M raw j q<=scR dn M raw j p:=fun j hj p hp=>by rw [hq j hj];exact yYD hp
 have k:=yVS hM hqn (by
  cases dn
  ·exact .inl fun j hj p hp=>by have:=yXk.mp (hc j hj p hp);simpa using this
  ·exact .inr fun j hj p hp=>by have:=yXk.mp (hc j hj p hp);simpa using this)
 exact ⟨hn i hi,(k i hi).trans (k 0 h0).symm⟩
theorem yBs {x:Nat->Int} {dn:Bool} {N:Nat} {ord:List Nat} (ho:yQw (fun i j=>decide (x i < x j)) dn N ord):ord=ordD (scD dn x) N:=
 yVW ho fun a b _ _=>by cases dn<;>simp [scD]
theorem yCA {dn:Bool} {M:Int} {raw:Nat->Rw} {N:Nat} {ord:List Nat} (h:∀ f,XR M raw f->yQw f dn N ord):∀ j,j < 2->ord=ordD (scR dn M raw j) N:=fun j hj=>yBs (h _ ⟨j,hj,rfl⟩)
theorem xi_of {j:Nat} (hj:j < 2):XI (ltK j):=by
 have:j=0\/j=1:=np43 hj
 rcases this with rfl | rfl
 ·exact .inl rfl
 ·exact .inr rfl
theorem yAd {B h:Heap} {L:Addr} {ms:List (Addr×Obj)} {x:Addr×Obj} (N:News B L h (ms++[x])):News B L h (x::ms):=fun q hq=>N q (by
 rcases qG.mp hq with r | r
 ·exact qF.mpr (.inr (by rw [r];exact .head _))
 ·exact qF.mpr (.inl r))
theorem swapN {B h:Heap} {L:Addr} {ms:List (Addr×Obj)} {x:Addr×Obj} (N:News B L h (x::ms)):News B L h (ms++[x]):=fun q hq=>N q (by
 rcases qF.mp hq with r | r
 ·exact .tail _ r
 ·rw [qC.mp r];exact .head _)
theorem fr_backM {B h h':Heap} {L:Addr} {Ms:List Addr} {m:Str->Option Value} (F:Fr B L h m) (off:∀ x∈Ms,x≠L/\B.get? x=none) (st:(hideAll h Ms).StaysIn h'):Fr B L h' m:=
 ⟨ns_at F.ns fun o q=>st _ _ (vJ _ q fun z=>(off _ z).1 rfl),fun x o e=>st _ _ (vJ _ (F.keep x o e) fun z=>by rw [(off _ z).2] at e;cases e),F.above⟩
theorem yXM {B h h':Heap} {L:Addr} {Ms:List Addr} {nw:List (Addr×Obj)} (N:News B L h nw) (off:∀ q∈nw,q.1 ∉ Ms) (st:(hideAll h Ms).StaysIn h'):News B L h' nw:=fun q hq=>
 ⟨st _ _ (vJ _ (N q hq).1 (off q hq)),(N q hq).2⟩
theorem off_fr {B base:Heap} {outer:List Env} {env:Env} {L:Addr} {Ms:List Addr} (hff:B.FunFrames base outer) (off:∀ x∈Ms,x≠L/\B.get? x=none) (hf:env.frame=some L):∀ a∈Ms,a ∉ framesOf (env::outer):=fun a ha z=>by
 rw [yQh hf] at z
 rcases qG.mp z with r | z
 ·exact (off _ ha).1 r
 ·obtain ⟨o,ho⟩:=yQZ hff z
  rw [(off _ ha).2] at ho;cases ho
theorem last_news {Ms:List Addr} {St:Nat->Heap->Prop} {ms:List (Addr×Obj)} {j:Nat} {h h':Heap} (l:yQU Ms St) (e:ms.map Prod.fst=Ms) (hs:St j h) (g:∀ q∈ms,h.get? q.1=some q.2) (g':∀ q∈ms,h'.get? q.1=some q.2):St j h':=l j h h' hs fun a ha o z=>by
 rw [<- e] at ha;obtain ⟨q,hq,rfl⟩:=wB.mp ha
 rw [g q hq] at z;cases z;exact g' q hq
theorem off_news {B h:Heap} {L:Addr} {Ms:List Addr} {ms:List (Addr×Obj)} (e:ms.map Prod.fst=Ms) (N:∀ q∈ms,h.get? q.1=some q.2/\q.1≠L/\B.get? q.1=none):∀ x∈Ms,x≠L/\B.get? x=none:=fun x hx=>by
 rw [<- e] at hx;obtain ⟨q,hq,rfl⟩:=wB.mp hx
 exact (N q hq).2
theorem yYg {α:Type} {MM:Model} {A:Around} {env:Env} {outer:List Env} {L:Addr} {mm:Sem α} {Q:α->Shared->Prop} {E:VS} {s:Shared} (hfr:A.frames=some outer) (hA:A.handled=none) (hd:A.depth<=496) (hu:A.units<=470) (hk:env.scope.kind=.function) (hf:env.frame=some L)
  (k:(∀ {B h:Heap} {m:Str->Option Value} {Ms:List Addr},Fr B L h m->B.FunFrames (fb B outer) outer->(∀ x∈Ms,x≠L/\B.get? x=none)->(hideAll h Ms).FunFrames (fb (hideAll h Ms) (env::outer)) (env::outer))->(A.deeper env).frames=some (env::outer)->(A.deeper env).handled=none->(A.deeper env).depth<=498->(A.deeper env).units+1<=780->wpAny MM (A.deeper env) mm Q E s):wpAny MM (A.deeper env) mm Q E s:=
 k (fun F ff off=>ff_call F ff off hk hf) (vO hfr) hA (qZ (succ_le_succ hd) (by decide)) (by show A.units+3+1<=780;exact qZ (Nat.add_le_add_right hu 4) (by decide))
structure HS (dn:Bool) (M:Int) (raw:Nat->Rw) (rv:Nat->Value) (more:It->List Value) (e:Nat->Value) (Ms:List Addr) (n j:Nat) (ts:List (Addr×Obj)) (its:List It) (od:Int):Prop where
 it:yQA (fun j p=>sc M j (raw p)) e (yCa rv more) dn ts its j od
 be:∀ k,k < 2->yZO (scR dn M raw k) (ltD k dn) n j its
 tu:∀ q∈ts,q.2.cls=.type "tuple"
 tm:∀ q∈ts,q.1 ∉ Ms
 fs:Fst raw j
theorem news_backD {B h h':Heap} {L D:Addr} {o o':Obj} {rest:List (Addr×Obj)} (N:News B L h ((D,o)::rest)) (off:∀ q∈rest,q.1≠D) (st:(hideAll h [D]).StaysIn h') (ho:h'.get? D=some o'):News B L h' ((D,o')::rest):=fun q hq=>by
 rcases qG.mp hq with rfl | hq
 ·exact ⟨ho,(N _ (.head _)).2⟩
 ·have z:=N _ (.tail _ hq)
  exact ⟨st _ _ (vJ _ z.1 fun r=>off q hq (qC.mp r)),z.2⟩
theorem off_D {B h:Heap} {L D cc:Addr} {items:Array Value} {c:Nat} {oc:Obj} {x:Option Value} {ms ts:List (Addr×Obj)} {Ms:List Addr} (N:News B L h ((D,listOf items c)::(cc,oc)::(ms++ts))) (d1:oc.data=.cell x) (hms:ms.map Prod.fst=Ms) (hD:D ∉ Ms) (tu:∀ q∈ts,q.2.cls=.type "tuple"):∀ q∈(cc,oc)::(ms++ts),q.1≠D:=fun q hq r=>by
 have g:=(N _ (.head _)).1
 have g2:=(N _ (.tail _ hq)).1
 rw [r] at g2
 dsimp only at g
 rw [g] at g2
 have e:=wD g2
 rcases qG.mp hq with z | hq
 ·rw [z] at e;dsimp only at e;rw [<- e] at d1;simp [W.listOf] at d1
 rcases qF.mp hq with hq | hq
 ·exact hD (by rw [<- hms,<- r];exact List.mem_map_of_mem hq)
 ·have:=tu q hq;rw [<- e] at this;simp [W.listOf] at this
theorem yBa {dn:Bool} {k:Nat}:fl dn (ltK k)=ltD k dn:=by cases dn<;>rfl
noncomputable def hfyA (dn:Bool):Addr:=cond dn 28 42
noncomputable def hrpA (dn:Bool):Addr:=cond dn 21 35
section
variable {A:Around} {s:Shared} {B:Heap} {Q:VS} {E:VS} {D L:Addr} {N n j c:Nat} {raw:Nat->Rw} {e rv:Nat->Value} {outer:List Env} {M:Int} {dn:Bool} {more:It->List Value} {its:List It} {ts rest:List (Addr×Obj)} {od:Int} {m:Str->Option Value} {Ms:List Addr} {env:Env}
theorem yAK (hd:A.depth<=498) (hu:A.units<=480) (hA:A.handled=none) (hfr:A.frames=some (env::outer)) (ff:(hideAll s.heap [D]).FunFrames (fb (hideAll s.heap [D]) (env::outer)) (env::outer)) (X:(hd01.heap_1 w.params).In B) (T:Top p loose yQv mg mb B)
  (F:Fr B L s.heap m) (Nw:News B L s.heap ((D,listOf (its.map It.v).toArray c)::rest)) (off:∀ q∈rest,q.1≠D) (hts:∀ q∈ts,q∈rest) (tu:∀ q∈ts,q.2.cls=.type "tuple") (tm:∀ q∈ts,q.1 ∉ Ms)
  (I:yQA (fun j p=>sc M j (raw p)) e (yCa rv more) dn ts its n od) (hpl:its.map pl=List.range n) (hn:0 < n) (h1000:n<=1000) (hm:∀ u,more u=[]\/∃ x,more u=[x]) (hv:∀ p,p < n->IsV (rv p) (raw p)) (hM:∀ p,p < n->(raw p).t=false->-M<=(raw p).z/\(raw p).z<=M)
  (hQ:∀ hs h' tk,HS dn M raw rv more e Ms n n ts hs od->Fr B L h' m->News B L h' ((D,listOf (hs.map It.v).toArray c)::rest)->(hideAll s.heap [D]).StaysIn h'->Q .none {s with heap:=h',toks:=tk})
  (hE:∀ ex h' tk,yQs "TypeError" (fb (hideAll s.heap [D]) (env::outer)) (env::outer) s.heap (WdK (RG raw n)) ex h'->E (.ref ex) {s with heap:=h',toks:=tk}):
  wpAny (model prog w) A (call (.ref (hfyA dn)) [.ref D]) Q E s:=by
 have LD:=(Nw _ (.head _)).2.1
 have BD:=(Nw _ (.head _)).2.2
 have gD:=(Nw _ (.head _)).1
 have hil:its.length=n:=by have:=wE List.length hpl;simpa using this
 have P0:=yVa I hm hv gD fun q hq=>(Nw q (.tail _ (hts q hq))).1
 have cmp:yZS prog w (hideAll s.heap [D]) (fun u=>u∈its) XI (WdK (RG raw n)):=yZq (M:=M) P0 fun u v hu hv=>I.inj (by rw [hpl];exact nodup_range) u hu v hv
 have fin:∀ (hs:List It) h' tk,(∀ k,k < 2->hs=hfy (ltD k dn) its (its.length / 2))->(hideAll s.heap [D]).StaysIn h'->h'.get? D=some (listOf (hs.map It.v).toArray c)->Q .none {s with heap:=h',toks:=tk}:=fun hs h' tk hhs st gD'=>by
  have B0:∀ k,k < 2->yZO (scR dn M raw k) (ltD k dn) n n hs:=fun k hk=>by
   have z:=yYb (sc:=scR dn M raw k) (sw_ltD (j:=k) (dn:=dn)) (its:=its) (by rw [hil];exact hn) (by rw [hpl,hil])
   rw [hil] at z
   rw [hhs k hk,hil];exact z
  have Ih:=I.sub (its':=hs) fun u hu=>by rw [hhs 0 (by decide)] at hu;exact (heapify_spec (sw_ltD (j:=0) (dn:=dn)) its).2.mem_iff.mp hu
  refine hQ hs h' tk ⟨Ih,B0,tu,tm,yYx (q:=pl (ge hs 0)) hM (fun i hi z=>?_) fun k hk=>(B0 k hk).root (sw_ltD (j:=k) (dn:=dn)) (sw_ltD (j:=k) (dn:=dn)) (Ih.hlt hk)⟩ (fr_back F (vF LD) BD st) (news_backD Nw off st gD') st
  have:=hv i hi;rw [z] at this;exact this
 have xk:∀ k,k < 2->XI (ltK k):=fun k hk=>xi_of hk
 exact yBL (g:=dn) (b:=hideAll s.heap [D]) (xs:=its) (n:=c) (S:=fun u=>u∈its) (Y:=XI) (Wd:=WdK (RG raw n)) hd hu hA hfr ff (fun a o q=>vL _ q) (by rw [hideAll_size];exact vC _) (X.keeps (stays_hide F.keep BD)) (T.keeps (stays_hide F.keep BD)) gD (vK _ (.head _)) (fun _ q=>q) cmp ⟨_,.inl rfl⟩ (by rw [hil];exact h1000) (fun ys h' tk q=>fin ys h' tk fun k hk=>yBa ▸ q _ (xk k hk)) hE
theorem same_no {G:Rw->Prop} {mm:Str} (h:WdK G mm) (k:∀ a b,G a->G b->a.t=b.t):False:=by
 obtain ⟨a,b,ha,hb,ht,_⟩:=h
 exact ht (k a b ha hb)
theorem yAX {a b:Rw} (h:Fst raw n) (ha:RG raw n a) (hb:RG raw n b):a.t=b.t:=by
 obtain ⟨i,hi,rfl⟩:=ha
 obtain ⟨k,hk,rfl⟩:=hb
 exact h.same hi hk
theorem yAJ {T5:Addr} {o5:Obj} (hd:A.depth<=498) (hu:A.units<=480) (hA:A.handled=none) (hfr:A.frames=some (env::outer)) (ff:(hideAll s.heap [D]).FunFrames (fb (hideAll s.heap [D]) (env::outer)) (env::outer)) (X:(hd01.heap_1 w.params).In B) (T:Top p loose yQv mg mb B)
  (F:Fr B L s.heap m) (Nw:News B L s.heap ((T5,o5)::(D,listOf (its.map It.v).toArray c)::rest)) (off:∀ q∈rest,q.1≠D) (hts:∀ q∈ts,q∈rest)
  (H:HS dn M raw rv more e Ms n j ts its od) (h1000:n<=1000) (hm:∀ u,more u=[]\/∃ x,more u=[x]) (hv:∀ p,p < j+1->IsV (rv p) (raw p))
  (h5:yCa rv more ⟨.ref T5,[sc M 0 (raw j),sc M 1 (raw j),(j:Int)],od,e j⟩ o5) (hT5:T5 ∉ Ms) (ht:(raw j).t=(raw 0).t) (hb:if dn=true then (raw (pl (ge its 0))).z < (raw j).z else (raw j).z < (raw (pl (ge its 0))).z)
  (hQ:∀ v zs h' tk,HS dn M raw rv more e Ms n (j+1) ((T5,o5)::ts) zs (if dn then od - 1 else od+1)->Fr B L h' m->News B L h' ((D,listOf (zs.map It.v).toArray c)::(T5,o5)::rest)->(hideAll s.heap [D]).StaysIn h'->Q v {s with heap:=h',toks:=tk}):
  wpAny (model prog w) A (call (.ref (hrpA dn)) [.ref D,.ref T5]) Q E s:=by
 obtain ⟨I,Be,tu,tm,fs⟩:=H
 have hil:=(Be 0 (by decide)).len
 have hpos:=(Be 0 (by decide)).pos
 have LD:=(Nw _ (.tail _ (.head _))).2.1
 have BD:=(Nw _ (.tail _ (.head _))).2.2
 have gD:=(Nw _ (.tail _ (.head _))).1
 have c5:o5.cls=.type "tuple":=by obtain ⟨_,_,rfl⟩:=h5;rfl
 have hnt:∀ i,i < j+1->raw i≠.thorn:=fun i hi z=>by have:=hv i hi;rw [z] at this;exact this
 have fs':Fst raw (j+1):=fs.snoc (hnt j (lt_succ_self _)) ht
 have I3:=I.add (y:=⟨.ref T5,[sc M 0 (raw j),sc M 1 (raw j),(j:Int)],od,e j⟩) (ts':=(T5,o5)::ts) (fun q hq=>.tail _ hq) ⟨T5,o5,rfl,rfl,rfl,.head _,h5⟩ rfl
 have hpy:pl (⟨.ref T5,[sc M 0 (raw j),sc M 1 (raw j),(j:Int)],od,e j⟩:It)=j:=yJJ (x:=fun j p=>sc M j (raw p)) rfl
 have N2:News B L s.heap ((D,listOf (its.map It.v).toArray c)::(T5,o5)::rest):=fun q hq=>Nw q (by
  rcases qG.mp hq with r | hq
  ·exact r ▸ .tail _ (.head _)
  rcases qG.mp hq with r | hq
  ·exact r ▸ .head _
  ·exact .tail _ (.tail _ hq))
 have off2:∀ q∈(T5,o5)::rest,q.1≠D:=fun q hq r=>by
  rcases qG.mp hq with rfl | hq
  ·have g:=(N2 _ (.tail _ (.head _))).1
   dsimp only at r g
   rw [r,gD] at g
   rw [<- wD g] at c5;simp [W.listOf] at c5
  ·exact off q hq r
 have hndy:(((⟨.ref T5,[sc M 0 (raw j),sc M 1 (raw j),(j:Int)],od,e j⟩:It)::its).map pl).Nodup:=by
  rw [map_cons,List.nodup_cons,hpy]
  refine ⟨fun z=>?_,(Be 0 (by decide)).places.nodup_iff.mpr ((ordD_nodup j).sublist (vQ _ _))⟩
  have:=mem_of_mem_take ((Be 0 (by decide)).places.mem_iff.mp z)
  exact absurd (ordD_mem.mp this) (lt_irrefl _)
 have P3:=yVa I3 hm hv gD fun q hq=>by
  rcases qG.mp hq with rfl | hq
  ·exact (Nw _ (.head _)).1
  ·exact (Nw q (.tail _ (.tail _ (hts q hq)))).1
 have cmp:yZS prog w (hideAll s.heap [D]) (fun u=>u∈(⟨.ref T5,[sc M 0 (raw j),sc M 1 (raw j),(j:Int)],od,e j⟩:It)::its) XI (WdK (RG raw (j+1))):=yZq (M:=M) P3 fun u v hu hv=>I3.inj hndy u hu v hv
 have no:yJu "TypeError" E (hideAll s.heap [D]) (env::outer) s (WdK (RG raw (j+1))):=fun ex h' tk fl=>by
  obtain ⟨_,_,_,_,_,f3,_⟩:=fl
  exact (same_no f3 fun a b ha hb=>yAX fs' ha hb).elim
 have fin:∀ v (zs:List It) h' tk,(∀ k,k < 2->zs=sup (ltD k dn) (its.set 0 ⟨.ref T5,[sc M 0 (raw j),sc M 1 (raw j),(j:Int)],od,e j⟩) 0 0 ⟨.ref T5,[sc M 0 (raw j),sc M 1 (raw j),(j:Int)],od,e j⟩)->(hideAll s.heap [D]).StaysIn h'->h'.get? D=some (listOf (zs.map It.v).toArray c)->Q v {s with heap:=h',toks:=tk}:=fun v zs h' tk hzs st gD'=>by
  have hp0:(raw (pl (ge its 0))).t=(raw j).t:=by
   obtain ⟨_,_,p1,_,k1,_,l1,_⟩:=I.good _ (ge_mem (by rw [hil];exact hpos))
   rw [yJJ (x:=fun j p=>sc M j (raw p)) k1]
   exact (fs _ l1).2.trans ht.symm
  refine hQ v zs h' tk ⟨I3.sub fun u hu=>?_,fun k hk=>?_,fun q hq=>?_,fun q hq=>?_,fs'⟩ (fr_back F (vF LD) BD st) (news_backD N2 off2 st gD') st
  ·rw [hzs 0 (by decide)] at hu
   exact yXh (by rw [vH,hil];exact hpos) _ (.head _) (fun v hv=>by
    rcases mem_or_eq_of_mem_set hv with h1 | h1
    ·exact .tail _ h1
    ·rw [h1];exact .head _) u hu
  ·rw [hzs k hk]
   exact (Be k hk).in sw_ltD (I.hlt hk) hpy ((scR_lt hp0).mpr hb)
  ·rcases qG.mp hq with rfl | hq
   ·exact c5
   ·exact tu q hq
  ·rcases qG.mp hq with rfl | hq
   ·exact hT5
   ·exact tm q hq
 exact yWS (g:=dn) (b:=hideAll s.heap [D]) (xs:=its) (y:=⟨.ref T5,[sc M 0 (raw j),sc M 1 (raw j),(j:Int)],od,e j⟩) (n:=c) (S:=fun u=>u∈(⟨.ref T5,[sc M 0 (raw j),sc M 1 (raw j),(j:Int)],od,e j⟩:It)::its) (Y:=XI) (Wd:=WdK (RG raw (j+1))) hd hu hA hfr ff (fun a o q=>vL _ q) (by rw [hideAll_size];exact vC _) (X.keeps (stays_hide F.keep BD)) (T.keeps (stays_hide F.keep BD)) gD (vK _ (.head _)) (fun _ q=>.tail _ q) (.head _) cmp ⟨_,.inl rfl⟩ (by rw [hil];exact hpos) (by rw [hil];exact h1000) (fun v ys h' tk q=>fin v ys h' tk fun k hk=>yBa ▸ q _ (xi_of hk)) no
theorem yAi {P:PySem.Fin->Shared->Prop} (hA:A.handled=none) (F:Fr B L s.heap m) (Nw:News B L s.heap ((D,listOf (its.map It.v).toArray c)::rest)) (off:∀ q∈rest,q.1≠D) (hts:∀ q∈ts,q∈rest)
  (H:HS dn M raw rv more e Ms n N ts its od) (h128:n < 128) (hm:∀ u,more u=[]\/∃ x,more u=[x]) (hv:∀ p,p < N->IsV (rv p) (raw p))
  (hQ:∀ zs h' tk c',yQA (fun j p=>sc M j (raw p)) e (yCa rv more) dn ts zs N od->(∀ k,k < 2->zs.map pl=(ordD (scR dn M raw k) N).take n)->zs.length=n->Fr B L h' m->News B L h' ((D,listOf (zs.map It.v).toArray c')::rest)->(hideAll s.heap [D]).StaysIn h'->P (.done (.ret .none)) {s with heap:=h',toks:=tk}):
  wpAny (model prog w) A (so_plain D dn) P E s:=by
 obtain ⟨I,Be,tu,tm,fs⟩:=H
 have hil:=(Be 0 (by decide)).len
 have LD:=(Nw _ (.head _)).2.1
 have BD:=(Nw _ (.head _)).2.2
 have gD:=(Nw _ (.head _)).1
 have hnd:(its.map pl).Nodup:=(Be 0 (by decide)).places.nodup_iff.mpr ((ordD_nodup N).sublist (vQ _ _))
 have P5:=yVa I hm hv gD fun q hq=>(Nw q (.tail _ (hts q hq))).1
 refine yAh (M:=M) (G:=RG raw N) hA gD (by rw [hil];exact h128) (I.nodup_i hnd) P5 (fun zs h' tk c' hzp hzs st gD'=>?_) fun H h' tk ex mm t stH hx hw=>(same_no hw fun a b ha hb=>yAX fs ha hb).elim
 refine hQ zs h' tk c' (I.sub fun u hu=>hzp.mem_iff.mp hu) (fun k hk=>yAM (Be k hk).places hzp (fun u hu v hv q=>(I.hlt hk u hu v hv).mp q) ?_) (hzp.length_eq.trans hil) (fr_back F (vF LD) BD st) (news_backD Nw off st gD') st
 have z:=hzs _ (xi_of hk)
 cases dn
 ·simpa [ltD] using z
 ·simpa [ltD] using z
end
def YV (raw:Nat->Rw) (rv:Nat->Value) (st:Int) (mJ:Nat->List Value) (j:Nat) (y:Value) (nw:List (Addr×Obj)):Prop:=X2 fun T ti=>A3 (raw j≠.thorn) (y=.ref T) (nw=[(T,{ cls:=.type "tuple",data:=.seq (rv j::.int (0+(j:Int) * st) ti::mJ j).toArray })])
theorem yQs.word {T:String} {b:Heap} {l:List Env} {h0 h:Heap} {Wd:Str->Prop} {ex:Addr} (fl:yQs T b l h0 Wd ex h):∃ m,Wd m/\yQs T b l h0 (·=m) ex h:=by
 obtain ⟨t,m,tk,f1,f2,f3,f4,f5⟩:=fl
 exact ⟨m,f3,t,m,tk,f1,f2,rfl,f4,f5⟩
theorem yZF {d:Addr} {l:List (Addr×Obj)}:AllLt d l->∀ q∈l,q.1 < d:=by
 induction l with
 | nil=>intro _ q hq;cases hq
 | cons a l ih=>
  intro h q hq
  rcases qG.mp hq with e | hq
  ·rw [e];exact h.1
  ·exact ih h.2 q hq
theorem new_off {T5:Addr} {ms ts:List (Addr×Obj)} {Ms:List Addr} (h:AllLt T5 (ms++ts)) (e:ms.map Prod.fst=Ms):T5 ∉ Ms:=fun z=>by
 rw [<- e] at z;obtain ⟨q,hq,r⟩:=wB.mp z
 have:=yZF h q (qF.mpr (.inl hq))
 rw [r] at this;exact lt_irrefl _ this
section
variable {raw:Nat->Rw} {rv e:Nat->Value} {dn:Bool} {M od:Int} {mJ:Nat->List Value} {rs:List (Value×List (Addr×Obj))} {Ms:List Addr} {n j N c:Nat} {its zs:List It} {ts ms:List (Addr×Obj)} {B h h':Heap} {L D cc:Addr} {oc:Obj} {m:Str->Option Value} {o:Obj}
theorem yZj (hY:∀ i r,rs[i]?=some r->YV raw rv (if dn then -1 else 1) mJ i r.1 r.2):A6 (yQA (fun j p=>sc M j (raw p)) e (yCa rv fun u=>mJ (pl u)) dn (rs.flatMap (·.2)) (mkIts (fun j p=>sc M j (raw p)) e dn rs) rs.length (if dn then -(rs.length:Int) else rs.length)) ((mkIts (fun j p=>sc M j (raw p)) e dn rs).map pl=List.range rs.length) ((mkIts (fun j p=>sc M j (raw p)) e dn rs).map It.v=rs.map (·.1)) (∀ q∈rs.flatMap (·.2),q.2.cls=.type "tuple") (∀ i,i < rs.length->raw i≠.thorn) ((mkIts (fun j p=>sc M j (raw p)) e dn rs).length=rs.length):=by
 refine ⟨yWN fun j r hr=>?_,yAp,yBw,fun q hq=>?_,fun i hi=>?_,yYM⟩
 ·obtain ⟨T,ti,q0,q1,q2⟩:=hY j r hr
  refine ⟨T,_,q1,q2,ti,0,?_⟩
  rw [yJJ (x:=fun j p=>sc M j (raw p)) (p:=j) rfl]
  cases dn<;>rfl
 ·obtain ⟨r,hr,hq⟩:=mem_flatMap.mp hq
  obtain ⟨i,hi,rfl⟩:=getElem_of_mem hr
  obtain ⟨T,ti,q0,q1,q2⟩:=hY i rs[i] (qT hi)
  rw [q2,qC] at hq;subst hq;rfl
 ·obtain ⟨T,ti,q0,q1,q2⟩:=hY i rs[i] (qT hi)
  exact q0
theorem HS.skip {more:It->List Value} (H:HS dn M raw rv more e Ms n j ts its od) (hn:raw j≠.thorn) (ht:(raw j).t=(raw 0).t) (hb:¬ if dn=true then (raw (pl (ge its 0))).z < (raw j).z else (raw j).z < (raw (pl (ge its 0))).z):HS dn M raw rv more e Ms n (j+1) ts its od:=by
 obtain ⟨I,Be,tu,tm,fs⟩:=H
 have hil:=(Be 0 (by decide)).len
 have hpos:=(Be 0 (by decide)).pos
 have hp0:(raw (pl (ge its 0))).t=(raw j).t:=by
  obtain ⟨_,_,p1,_,k1,_,l1,_⟩:=I.good _ (ge_mem (by rw [hil];exact hpos))
  rw [yJJ (x:=fun j p=>sc M j (raw p)) k1]
  exact (fs _ l1).2.trans ht.symm
 exact ⟨I.skip,fun k hk=>(Be k hk).out sw_ltD (I.hlt hk) fun z=>hb ((scR_lt hp0).mp z),tu,tm,fs.snoc hn ht⟩
theorem HS.mark {more:It->List Value} {od':Int} (H:HS dn M raw rv more e Ms n j ts its od) (h:if dn=true then od'<=od else od<=od'):HS dn M raw rv more e Ms n j ts its od':=
 ⟨⟨H.it.good,H.it.idx,fun u hu=>by
  have:=H.it.ord u hu
  cases dn
  ·exact Int.lt_of_lt_of_le this h
  ·exact Int.lt_of_le_of_lt h this⟩,H.be,H.tu,H.tm,H.fs⟩
theorem HS.root {more:It->List Value} (H:HS dn M raw rv more e Ms n j ts its od):A3 (pl (ge its 0) < j) (∀ i,i < 2->pl (ge its 0)=(ordD (scR dn M raw i) j).getD (n - 1) 0) (its.length=n/\0 < n):=by
 obtain ⟨I,Be,tu,tm,fs⟩:=H
 have hil:=(Be 0 (by decide)).len
 have hpos:=(Be 0 (by decide)).pos
 refine ⟨?_,fun k hk=>(Be k hk).root (sw_ltD (j:=k) (dn:=dn)) (sw_ltD (j:=k) (dn:=dn)) (I.hlt hk),hil,hpos⟩
 obtain ⟨_,_,p1,_,k1,_,l1,_⟩:=I.good _ (ge_mem (by rw [hil];exact hpos))
 rw [yJJ (x:=fun j p=>sc M j (raw p)) k1];exact l1
theorem HS.top {more:It->List Value} (H:HS dn M raw rv more e Ms n j ts its od):X4 fun T o ti mm=>A5 ((its.getD 0 it0).v=.ref T) ((T,o)∈ts) (o={ cls:=.type "tuple",data:=.seq (rv (pl (ge its 0))::.int (its.getD 0 it0).i ti::more (ge its 0)).toArray mm }) ((ge its 0).e=e (pl (ge its 0))) (pl (ge its 0) < j):=by
 obtain ⟨I,Be,tu,tm,fs⟩:=H
 have hil:=(Be 0 (by decide)).len
 have hpos:=(Be 0 (by decide)).pos
 obtain ⟨T,o,p1,v1,k1,e1,l1,m1,ti,mm,ho⟩:=I.good _ (ge_mem (by rw [hil];exact hpos))
 have hp:=yJJ (x:=fun j p=>sc M j (raw p)) k1
 exact ⟨T,o,ti,mm,v1,m1,ho,by rw [hp];exact e1,by rw [hp];exact l1⟩
theorem yJm (F:Fr B L h m) (N:News B L h ((D,o)::(cc,oc)::(ms++ts))) (hms:ms.map Prod.fst=Ms) (hD:D ∉ Ms) (hc:cc ∉ Ms) (tm:∀ q∈ts,q.1 ∉ Ms) (st:(hideAll h Ms).StaysIn h') (al:∀ a∈Ms,∃ o,h'.get? a=some o):
  ∃ ms',A4 (ms'.map Prod.fst=Ms) (Fr B L h' m) (News B L h' ((D,o)::(cc,oc)::(ms'++ts))) (∀ q∈ms',h'.get? q.1=some q.2):=by
 have off:=off_news hms fun q hq=>N q (.tail _ (.tail _ (qF.mpr (.inl hq))))
 obtain ⟨ms',e2,g2⟩:=yJy al
 refine ⟨ms',e2,fr_backM F off st,fun q hq=>?_,g2⟩
 have k:∀ q∈(D,o)::(cc,oc)::ts,q.1 ∉ Ms:=fun q hq=>by
  rcases qG.mp hq with rfl | hq
  ·exact hD
  rcases qG.mp hq with rfl | hq
  ·exact hc
  ·exact tm q hq
 have k2:∀ q∈(D,o)::(cc,oc)::ts,h'.get? q.1=some q.2/\q.1≠L/\B.get? q.1=none:=fun q hq=>yXM (nw:=(D,o)::(cc,oc)::ts) (fun q hq=>N q (by
  rcases qG.mp hq with r | hq
  ·exact r ▸ .head _
  rcases qG.mp hq with r | hq
  ·exact r ▸ .tail _ (.head _)
  ·exact .tail _ (.tail _ (qF.mpr (.inr hq))))) k st q hq
 rcases qG.mp hq with r | hq
 ·exact k2 q (r ▸ .head _)
 rcases qG.mp hq with r | hq
 ·exact k2 q (r ▸ .tail _ (.head _))
 rcases qF.mp hq with hq | hq
 ·exact ⟨g2 q hq,off _ (by rw [<- e2];exact List.mem_map_of_mem hq)⟩
 ·exact k2 q (.tail _ (.tail _ hq))
theorem news_start (N:News B L h ((D,o)::(ms++([(cc,oc)]++ts)))):News B L h ((D,o)::(cc,oc)::(ms++ts)):=fun q hq=>N q (by
 rcases qG.mp hq with r | hq
 ·exact r ▸ .head _
 rcases qG.mp hq with r | hq
 ·exact .tail _ (qF.mpr (.inr (r ▸ .head _)))
 rcases qF.mp hq with hq | hq
 ·exact .tail _ (qF.mpr (.inl hq))
 ·exact .tail _ (qF.mpr (.inr (.tail _ hq))))
theorem yBv {T5:Addr} {o5:Obj} (N:News B L h ((D,o)::(T5,o5)::(cc,oc)::(ms++ts))):News B L h ((D,o)::(cc,oc)::(ms++((T5,o5)::ts))):=fun q hq=>N q (by
 rcases qG.mp hq with r | hq
 ·exact r ▸ .head _
 rcases qG.mp hq with r | hq
 ·exact r ▸ .tail _ (.tail _ (.head _))
 rcases qF.mp hq with hq | hq
 ·exact .tail _ (.tail _ (.tail _ (qF.mpr (.inl hq))))
 rcases qG.mp hq with r | hq
 ·exact r ▸ .tail _ (.head _)
 ·exact .tail _ (.tail _ (.tail _ (qF.mpr (.inr hq)))))
theorem yYo {f:Nat->Int} {w:Nat} (h:min w N=0):[]=(ordD f N).take w:=by
 have:((ordD f N).take w).length=0:=by rw [length_take,ordD_len];exact h
 exact (List.eq_nil_of_length_eq_zero this).symm
theorem yAw {more:It->List Value} (I:yQA (fun j p=>sc M j (raw p)) e (yCa rv more) dn ts zs N od) (ht:∀ q∈ts,h.get? q.1=some q.2):∃ f1:Nat->Value,(∀ i,i < zs.length->∃ mm,h.get? (adOf (zs.getD i it0).v)=some { cls:=.type "tuple",data:=.seq (rv (pl (zs.getD i it0))::f1 i::more (zs.getD i it0)).toArray mm })/\zs.map It.v=(List.range zs.length).map fun i=>Value.ref (adOf (zs.getD i it0).v):=by
 have hch:∀ i,∃ v:Value,i < zs.length->∃ mm,h.get? (adOf (zs.getD i it0).v)=some { cls:=.type "tuple",data:=.seq (rv (pl (zs.getD i it0))::v::more (zs.getD i it0)).toArray mm }:=by
  intro i
  by_cases hi:i < zs.length
  ·obtain ⟨T7,o7,p7,v7,k7,f7,l7,m7,ti7,mm7,ho7⟩:=I.good _ (getD_mem hi)
   refine ⟨.int (zs.getD i it0).i ti7,fun O=>⟨mm7,?_⟩⟩
   have g7:=ht _ m7
   rw [ho7] at g7
   rw [v7];exact g7
  ·exact ⟨.none,fun q=>absurd q hi⟩
 obtain ⟨f1,hf1⟩:=Classical.axiomOfChoice hch
 refine ⟨f1,hf1,ext_getElem (by simp) fun i a b=>?_⟩
 have hi:i < zs.length:=by simpa using a
 obtain ⟨T7,o7,p7,v7,_⟩:=I.good _ (wK hi)
 simp only [getElem_map,List.getElem_range,qR,qT hi,Option.getD_some]
 rw [v7];rfl
theorem yAE {h:Heap} {D I X:Addr} {o:Obj} {n:Nat} {Ts:Nat->Addr} (gI:h.get? I=some o) {items:Array Value} {c:Nat} (gD:h.get? D=some (listOf items c)) (hT:∀ i,i < n->∃ o,h.get? (Ts i)=some o) (q:h.get? X=none):X≠I/\X≠D/\∀ i,i < n->X≠Ts i:=by
 refine ⟨fun r=>?_,fun r=>?_,fun i hi r=>?_⟩
 ·rw [r,gI] at q;cases q
 ·rw [r,gD] at q;cases q
 ·obtain ⟨o,g⟩:=hT i hi
  rw [r,g] at q;cases q
theorem yYQ {St:Nat->Heap->Prop} {IT:Addr} {nw:List (Addr×Obj)} {a0 step:Int} {left:Nat} {s sa1:Shared} {xv:Value} (lS:yQU Ms St) (hms:ms.map Prod.fst=Ms) (h0:St 0 h) (g:∀ q∈ms,h.get? q.1=some q.2) (hz:yJQ B L m IT (ms++nw) a0 step left s xv sa1):yJQ B L m IT (ms++nw) a0 step left s xv sa1/\St 0 sa1.heap:=by
 refine ⟨hz,?_⟩
 obtain ⟨h4,h5,tk,z,TI,TO,i1,T,_,rfl,_,N4,st5,_⟩:=hz
 exact last_news lS hms h0 g fun q hq=>st5 _ _ (N4 q (qF.mpr (.inl hq))).1
end
set_option tactic.hygienic true
def fnA (dn:Bool):Addr:=cond dn 82 76
theorem size_v (g:Bool) (w:Int):Builtin.Range.rangeSize 0 (cond g (-w) w) (cond g (-1) 1)=(w.toNat:Int):=by
 cases g
 ·exact yBo w
 ·exact yYv w
noncomputable abbrev mJn (ke:Bool) (e:Nat->Value) (p:Nat):List Value:=cond ke [e p] []
theorem yCG:∀ ke e p,mJn ke e p=[]\/∃ x,mJn ke e p=[x]
 | true,_,_=>.inr ⟨_,rfl⟩
 | false,_,_=>.inl rfl
def fnS (dn:Bool):Stmt:=PySem.Challenge.rw_dp0046_01.prog.main.body.getD (cond dn 10 9) (.Pass ⟨0,0,0,0⟩)
def stB:Stmt->List Stmt | .If _ b _ _=>b | .For _ _ b _ _=>b | .FunctionDef _ _ b _ _ _ _ _ _ _=>b | _=>[]
def stS:Stmt->Scope | .FunctionDef _ _ _ _ _ _ sc _ _ _=>sc | _=>{ kind:=.function,names:=[],isGenerator:=false,isCoroutine:=false }
def fnB (dn:Bool):List Stmt:=stB (fnS dn)
def fnSc (dn:Bool):Scope:=stS (fnS dn)
def fnC (dn ke:Bool):List Stmt:=cond ke ((fnB dn).drop 3) (stB ((fnB dn).getD 2 (.Pass ⟨0,0,0,0⟩)))
noncomputable abbrev envN (dn:Bool) (L:Addr):Env:=envOfC (Str.ofString (cond dn "nlargest" "nsmallest")) (fnSc dn) L (fnA dn) (.ref (cond dn 81 75))
namespace K_n5_end
def zP (A:Around) (s:Shared) (b:Heap) (Q E:VS) (N:Nat) (raw:Nat->Rw) (e rv:Nat->Value) (wish:Int) (t:Tok) (outer:List Env) (kv:Value) (Ms0:List Addr) (Rd:Nat->Heap->Prop) (M:Int) (L':Addr) (Ba2:Heap) (IT:Addr) (Ms:List Addr) (St Mid:Nat->Heap->Prop) (oc:Obj) (QF:Flow->Shared->Prop) (D:Addr) (h8:Heap) (tk8 c8:Nat) (m8:Str->Option Value) (ms8:List (Addr×Obj)) (rs:List (Value×List (Addr×Obj))):Prop:=∀ (dn:Bool) (ke:Bool) (hd:A.depth<=496) (hu:A.units<=470) (hA:A.handled=none) (hfr:A.frames=some outer) (hv:yZI N raw rv) (h128:N < 128) (hM:∀ p,p < N->(raw p).t=false->-M<=(raw p).z/\(raw p).z<=M) (hQ:∀ R h' tk c ord,b.StaysIn h'->b.get? R=none->(∀ j,j < 2->ord=(ordD (scR dn M raw j) N).take wish.toNat)->(1<=wish->Fst raw N)->h'.get? R=some (listOf (ord.map e).toArray c)->Rd (if 1<=wish then N else 0) h'->yQa outer s.heap h'->Q (.ref R) {s with heap:=h',toks:=tk}) (hV:∀ j ex h' tk b2,A6 (1<=wish) (j < N) (raw j=.thorn) (∀ i,i < j->raw i≠.thorn) (Fst raw j\/(j:Int) < wish) ((fb b outer).StaysIn b2)->Rd (j+1) b2->yQs "ValueError" b2 outer s.heap (·=thW j) ex h'->E (.ref ex) {s with heap:=h',toks:=tk}) (hT:∀ r mm ex h' tk b2,A3 (1<=wish) (Tw dn M raw N wish r mm) ((fb b outer).StaysIn b2)->Rd r b2->yQs "TypeError" b2 outer s.heap (·=mm) ex h'->E (.ref ex) {s with heap:=h',toks:=tk}) (lR:yQU Ms0 Rd) (hMl:∀ a∈Ms0,a < L'/\a ∉ framesOf outer) (hsL:s.heap.get? L'=none) (hw1:wish≠1) (bs2:Bs b s.heap outer L' Ba2) (XB2:(hd01.heap_1 w.params).In Ba2) (TB2:Top p loose yQv mg mb Ba2) (hS:yCb prog w b kv N raw e rv IT Ms St Mid Rd) (hcM:(L'+1:Nat) ∉ Ms) (d1:oc.data=.cell (some kv)) (hke:cond ke (X2 fun fq fo=>A3 (kv=.ref fq) (b.get? fq=some fo) (∃ fd,fo.data=.func fd)) (kv=.none)) (hret:∀ v s',Q v s'->QF (.ret v) s') (e_r:m8 (Str.ofString "result")=some (.ref D)) (e_i:m8 (Str.ofString "it")=some (.ref IT)) (e_n:m8 (Str.ofString "n")=some (.int wish t)) (hlen:rs.length=min wish.toNat N) (hYP:∀ i r,rs[i]?=some r->YV raw rv (cond dn (-1) 1) (mJn ke e) i r.1 r.2) (F8:Fr Ba2 L' h8 m8) (hms8:ms8.map Prod.fst=Ms) (N8:News Ba2 L' h8 ((D,listOf (rs.map (·.1)).toArray c8)::(L'+1,oc)::(ms8++rs.flatMap (·.2)))) (hS8:St (min wish.toNat N) h8) (hDM:D ∉ Ms) (htm:∀ q∈rs.flatMap (·.2),q.1 ∉ Ms),
  wpAny (model prog w) (A.deeper (envN dn L')) (execs ((fnC dn ke).drop 2) (envN dn L')) QF
   (fun e s'=>wpAny (model prog w) (A.deeper (envN dn L')) (leaving (envN dn L') e) (fun _ s''=>E e s'') (fun e' s''=>E e' s'') s') {s with heap:=h8,toks:=tk8}
def zc:=ep (U31 zP) ⟨({},(start default).1,default,fun O O=>True,fun O O=>True,0,fun O=>.thorn,fun O=>.none,fun O=>.none,0,0,[],.none,[],fun O O=>True,0,0,default,0,[],fun O O=>True,fun O O=>True,default,fun O O=>True,0,default,0,0,fun O=>none,[],[])⟩
def zd1:=zc.2.2.2.2.2.2.2.2
def zd2:=zd1.2.2.2.2.2.2.2.2
def zd3:=zd2.2.2.2.2.2.2.2.2
def A:=zc.1
def s:=zc.2.1
def b:=zc.2.2.1
def Q:=zc.2.2.2.1
def E:=zc.2.2.2.2.1
def N:=zc.2.2.2.2.2.1
def raw:=zc.2.2.2.2.2.2.1
def e:=zc.2.2.2.2.2.2.2.1
def rv:=zd1.1
def wish:=zd1.2.1
def t:=zd1.2.2.1
def kv:=zd1.2.2.2.2.1
def M:=zd1.2.2.2.2.2.2.2.1
def L':=zd2.1
def Ba2:=zd2.2.1
def Ms:=zd2.2.2.2.1
def St:=zd2.2.2.2.2.1
def Mid:=zd2.2.2.2.2.2.1
def oc:=zd2.2.2.2.2.2.2.1
def D:=zd3.1
def h8:=zd3.2.1
def c8:=zd3.2.2.2.1
def ms8:=zd3.2.2.2.2.2.1
def rs:=zd3.2.2.2.2.2.2
theorem zh:zP A s b Q E N raw e rv wish t zd1.2.2.2.1 kv zd1.2.2.2.2.2.1 zd1.2.2.2.2.2.2.1 M L' Ba2 zd2.2.2.1 Ms St Mid oc zd2.2.2.2.2.2.2.2.1 D h8 zd3.2.2.1 c8 zd3.2.2.2.2.1 ms8 rs:=by
 intro dn ke hd hu hA hfr hv h128 hM hQ hV hT lR hMl hsL hw1 bs2 XB2 TB2 hS hcM d1 hke hret e_r e_i e_n hlen hYP F8 hms8 N8 hS8 hDM htm
 have hu':∀ env,(A.deeper env).units<=473:=fun env=>by rw [Around.deeper_units];lia
 have hd':∀ env,(A.deeper env).depth<=497:=fun env=>succ_le_succ hd
 let gq:=dn
 let kq:=ke
 have hke2:=hke
 cases dn<;>cases ke<;>(
 refine yYg hfr hA hd hu (by rfl) (by rfl) fun FF fr5 hA5 hd5 hu5=>?_
 first
 | (
   have z:kq=true:=rfl;clear z
   obtain ⟨fq,fo,hkv,hfq,fd,hfd⟩:=hke
   rw [hkv] at d1
   have hK:yZM prog w b fq N raw e rv Ms St Mid:=by
    rcases hS.way with ⟨h,_⟩ | ⟨fq',h1,h2⟩
    ·rw [hkv] at h;cases h
    ·rw [hkv] at h1;cases h1;exact h2
   skip)
 | (
   have hk0:kv=.none:=hke
   obtain ⟨her,hmid⟩:(∀ j,j < N->e j=rv j)/\∀ j h,Mid j h->raw j≠.thorn/\St (j+1) h:=by
    rcases hS.way with ⟨_,h1,h2⟩ | ⟨fq,hfq,_⟩
    ·exact ⟨h1,h2⟩
    ·rw [hk0] at hfq;cases hfq)
 conv in (fnC _ _).drop 2=>whnf
 have hmin:min wish.toNat N=rs.length:=hlen.symm
 rw [hmin] at hS8
 have g8:∀ q∈ms8,h8.get? q.1=some q.2:=fun q hq=>(N8 q (.tail _ (.tail _ (qF.mpr (.inl hq))))).1
 walk_at "r1"
 refine kgr_truthy N8 (.head _) rfl rfl (by rw [length_map,hlen];exact vR (min_le_right _ _) (vV h128 (by decide))) ?_
 by_cases he:(rs.map (·.1)).isEmpty=true
 ·rw [he]
  walk_at "r1"
  have he':rs=[]:=by simpa using he
  rw [he'] at hmin hS8 N8
  refine hret _ _ <| hQ D _ _ c8 [] (fun a o q=>F8.keep _ _ (bs2.st _ _ q)) (none_sub bs2.st (N8 _ (.head _)).2.2) (fun j hj=>yYo hmin) (fun h1 i hi=>by simp at hmin;lia) (N8 _ (.head _)).1 ?_ (bs2.fr.trans (yQa.of_keeps F8.keep))
  have e0:(if 1<=wish then N else 0)=0:=by simp at hmin;split<;>lia
  rw [e0]
  exact hS.rd _ _ hS8
 have he:(rs.map (·.1)).isEmpty=false:=Bool.eq_false_iff.mpr he
 rw [he]
 walk_at "r1"
 have hpos:0 < rs.length:=vP fun z=>(by rw [List.length_eq_zero_iff.mp z] at he;cases he)
 have hle:rs.length<=N:=(by rw [hlen];exact min_le_right _ _)
 have hw0:1<=wish:=yDu hlen hpos
 obtain ⟨I0,hpl,hiv,tsT,hnt,hil⟩:=yZj (e:=e) (M:=M) (dn:=gq) (mJ:=mJn kq e) hYP
 rw [<- hiv] at N8
 have hv':∀ n,n<=N->(∀ i,i < n->raw i≠.thorn)->∀ p,p < n->IsV (rv p) (raw p):=fun n hn hh p hp=>hv p (qP hp hn) (hh p hp)
 generalize mkIts (fun j p=>sc M j (raw p)) e gq rs=its at *
 generalize rs.flatMap (·.2)=ts at *
 have LD:=(N8 _ (.head _)).2.1
 have BD:=(N8 _ (.head _)).2.2
 have offD:∀ x∈[D],x≠L'/\Ba2.get? x=none:=fun x hx=>by rw [qC.mp hx];exact ⟨LD,BD⟩
 have hm1:∀ u:It,mJn kq e (pl u)=[]\/∃ x,mJn kq e (pl u)=[x]:=fun u=>yCG kq e (pl u)
 refine yAK (dn:=gq) (n:=rs.length) (e:=e) (rv:=rv) (raw:=raw) (M:=M) (Ms:=Ms) (ts:=ts) (more:=fun u=>mJn kq e (pl u)) (le_succ_of_le (hd' _)) (qZ (hu' _) (by decide)) hA fr5 (FF F8 bs2.ff offD) XB2 TB2 F8 N8 (off_D N8 d1 hms8 hDM tsT) (fun q hq=>.tail _ (qF.mpr (.inr hq))) tsT htm I0 hpl hpos (by lia) hm1 (hv' _ hle hnt) (fun p hp=>hM p (qP hp hle)) ?_ ?_
 ·intro hs h9 tk9 H9 F9 N9 st9
  have hS9:St rs.length h9:=hS.ls _ _ _ hS8 fun a ha o z=>st9 _ _ (vJ _ z fun r=>hDM (by rw [<- qC.mp r];exact ha))
  have g9:∀ q∈ms8,h9.get? q.1=some q.2:=fun q hq=>(N9 q (.tail _ (.tail _ (qF.mpr (.inl hq))))).1
  clear F8 N8 I0 hpl hil hiv
  obtain ⟨_,_,hsl,_⟩:=H9.root
  walk_at "r1"
  replace H9:HS gq M raw rv (fun u=>mJn kq e (pl u)) e Ms rs.length rs.length ts hs (cond gq (-wish) wish):=H9.mark (by first | exact (show -wish<=_ from Int.neg_le_neg (np42 hlen hw0)) | exact (show _<=wish from np42 hlen hw0))
  obtain ⟨T0,o0,ti0,mm0,v0,m0,ho0,_,l0⟩:=H9.top
  rw [show (hs.getD (Int.toNat 0) it0).v=.ref T0 from v0]
  have gT0:=(N9 _ (.tail _ (.tail _ (qF.mpr (.inr m0))))).1
  rw [ho0] at gT0
  refine tail_any ⟨_,gT0,rfl⟩ F.slot_tuple_getitem.lookup (P.getItem_tuple gT0 (by decide) (by decide) (k:=0) rfl rfl ?_) (by with_unfolding_all rfl)
  walk_at "r1"
  rename_i h12 F12 N12
  obtain ⟨Q2,hQ2⟩:∃ Q2:Flow->Shared->Prop,Q2=fun f s'=>f=.next/\X8 fun its ts h tk ma3 od ms c=>A8 (s'={s with heap:=h,toks:=tk}) (Fr Ba2 L' h ma3) (News Ba2 L' h ((D,listOf (its.map It.v).toArray c)::(L'+1,oc)::(ms++ts))) (ma3 (Str.ofString "result")=some (.ref D)) (HS gq M raw rv (fun u=>mJn kq e (pl u)) e Ms rs.length N ts its od) (ms.map Prod.fst=Ms) (St N h) (c=c8):=⟨_,rfl⟩
  refine qL (Q:=Q2) ?_ ?_ fun _ _ e=>e
  ·refine wpAny_For ?_
   walk_at "r1"
   have hS12:St rs.length h12:=last_news hS.ls hms8 hS9 g9 fun q hq=>(N12 q (.tail _ (.tail _ (qF.mpr (.inl hq))))).1
   refine hS.it _ _ _ _ _ hS12 (fun a o q=>F12.keep _ _ (bs2.st _ _ q)) ?_
   obtain ⟨IV,hIV⟩:∃ IV:Nat->Shared->Prop,IV=fun k s'=>X8 fun j its ts h tk ma3 od ms=>A10 (k=N+1 - j) (rs.length<=j/\j<=N) (s'={s with heap:=h,toks:=tk}) (Fr Ba2 L' h ma3) (News Ba2 L' h ((D,listOf (its.map It.v).toArray c8)::(L'+1,oc)::(ms++ts))) (ms.map Prod.fst=Ms/\St j h) (ma3 (Str.ofString "result")=some (.ref D)/\ma3 (Str.ofString "_heapreplace")=some (.ref (hrpA gq))) (ma3 (Str.ofString "top")=some (rv (pl (ge its 0)))) (∃ tod,ma3 (Str.ofString "order")=some (.int od tod)) (HS gq M raw rv (fun u=>mJn kq e (pl u)) e Ms rs.length j ts its od):=⟨_,rfl⟩
   refine yCQ IV (N+1 - rs.length) ?_ ?_
   ·subst hIV
    exact ⟨rs.length,hs,ts,h12,_,_,_,ms8,rfl,⟨vC _,hle⟩,rfl,F12,N12,⟨hms8,hS12⟩,⟨by exact e_r,rfl⟩,rfl,⟨_,rfl⟩,H9⟩
   clear F12 N12 gT0 m0 ho0 v0 l0 hsl H9 hS12 hS9 g9 st9 tsT htm hYP
   intro k s' hik
   rw [hIV] at hik
   obtain ⟨j,its,ts,h13,tk13,ma3,od,ms,rfl,⟨hj1,hj2⟩,rfl,F13,N13,⟨hms,hS13⟩,⟨e3,e6⟩,e4,⟨tod,e5⟩,H2⟩:=hik
   first | (have z:gq=true:=rfl;clear z;replace e6:ma3 (Str.ofString "_heapreplace")=some (.ref 21):=e6) | (replace e6:ma3 (Str.ofString "_heapreplace")=some (.ref 35):=e6)
   have offI:=off_news hms fun q hq=>N13 q (.tail _ (.tail _ (qF.mpr (.inl hq))))
   have stI:Ba2.StaysIn (hideAll h13 Ms):=fun a o q=>vJ _ (F13.keep _ _ q) fun z=>by rw [(offI _ z).2] at q;cases q
   have hbI:b.StaysIn (hideAll h13 Ms):=fun _ _ q=>stI _ _ (bs2.st _ _ q)
   obtain ⟨r1,r2,hil2,hpos2⟩:=H2.root
   by_cases hjN:j < N
   ·have hnw:rs.length=wish.toNat:=np32 hlen hj1 hjN
    refine nextC_of (B:=hideAll h13 Ms) hS.fn hd5 (qZ (Nat.le_of_succ_le hu5) (by decide)) hA5 fr5 (FF F13 bs2.ff offI) hbI j (hideAll h13 Ms) _ _ _ hjN (fun _ _ q=>q) (fun _ _ q=>vL _ q) (by rw [hideAll_size];exact vC _) (fun a ha=>vK _ ha) hS13 (fun h14 tk14 st14 hM14=>?_) fun ex h14 tk14 b2 z0 z1 z2 z3 z4=>?_
    ·first
     | (
       have z:kq=true:=rfl;clear z
       obtain ⟨ms1',hms1',F14,N14,g14⟩:=yJm F13 N13 hms hDM hcM H2.tm st14 (hS.am _ _ hM14)
       clear F13 N13
       walk_at "r1"
       ·rename_i h15 F15 N15
        exact F15.keep _ _ (bs2.st _ _ hfq)
       rename_i h15 F15 N15
       have hM15:Mid j h15:=last_news hS.lm hms1' hM14 g14 fun q hq=>(N15 q (.tail _ (.tail _ (qF.mpr (.inl hq))))).1
       have offJ:=off_news hms1' fun q hq=>N15 q (.tail _ (.tail _ (qF.mpr (.inl hq))))
       have bJ:b.StaysIn (hideAll h15 Ms):=fun a o q=>vJ _ (F15.keep _ _ (bs2.st _ _ q)) fun z=>by rw [none_sub bs2.st (offJ _ z).2] at q;cases q
       refine hK j _ _ (hideAll h15 Ms) _ _ _ hjN hd5 (qZ (Nat.le_of_succ_le hu5) (by decide)) hA5 fr5 (FF F15 bs2.ff offJ) bJ (fun _ _ q=>vL _ q) (by rw [hideAll_size];exact vC _) (fun a ha=>vK _ ha) hM15 (fun h16a tk16a hnj st16a hS16a=>?_) fun ex h14 tk14 b2 z1 z2 z3 z4=>?_
       rotate_left
       ·exact yZm (B':=h15) (fun ex h' tk b2 x1 x2 x3=>hV j ex h' tk b2 ⟨hw0,hjN,z1,fun i hi=>(H2.fs i hi).1,.inl H2.fs,x1⟩ x2 x3) hfr bs2 (fun _ _ z=>z2 _ _ (fb_sub F15 (fun x hx=>(offJ x hx).2) (by rfl) _ _ z)) (hS.rd _ _ z3) z4 (yQa.of_keeps F15.keep)
       obtain ⟨ms2,hms2,F16a,N16a,g14⟩:=yJm F15 N15 hms1' hDM hcM H2.tm st16a (hS.as _ _ hS16a)
       have hS14:=hS16a
       clear F15 N15 hM15 hM14
       have hu2:=hv _ (qP r1 hj2) (H2.fs _ r1).1
       have hv2:=hv j hjN hnj
       walk_at "r1")
     | (
       obtain ⟨ms2,hms2,F14,N14,g14⟩:=yJm F13 N13 hms hDM hcM H2.tm st14 (hS.am _ _ hM14)
       obtain ⟨hnj,hS14⟩:=hmid j h14 hM14
       clear F13 N13
       have hu2:=hv _ (qP r1 hj2) (H2.fs _ r1).1
       have hv2:=hv j hjN hnj
       walk_at "r1"
       rw [<- her j hjN] at hv2)
     rename_i h15 F15 N15
     have hS15:St (j+1) h15:=last_news hS.ls hms2 hS14 g14 fun q hq=>(N15 q (.tail _ (.tail _ (qF.mpr (.inl hq))))).1
     show wpAny _ _ (richCompare .Lt _ _) _ _ _
     by_cases ht:(raw j).t=(raw 0).t
     ·have ht2:(raw (pl (ge its 0))).t=(raw j).t:=(H2.fs _ r1).2.trans ht.symm
      first | (have z:gq=true:=rfl;clear z;refine rich_lt_same hu2 hv2 ht2 ?_) | (refine rich_lt_same hv2 hu2 ht2.symm ?_)
      walk_at "r1"
      ·rename_i hxx T5 h16 F16 N16 l16
       first | (have z:kq=false:=rfl;clear z;rw [her j hjN] at N16) | skip
       refine yAJ (dn:=gq) (n:=rs.length) (j:=j) (e:=e) (rv:=rv) (raw:=raw) (M:=M) (Ms:=Ms) (ts:=ts) (od:=od) (more:=fun u=>mJn kq e (pl u)) (le_succ_of_le (hd' _)) (qZ (hu' _) (by decide)) hA fr5 (FF F16 bs2.ff offD) XB2 TB2 F16 N16 (off_D (fun q hq=>N16 q (.tail _ hq)) d1 hms2 hDM H2.tu) (fun q hq=>.tail _ (qF.mpr (.inr hq))) H2 (by lia) hm1 (fun p hp=>hv p (qP hp hjN) ((H2.fs.snoc hnj ht) p hp).1) ⟨tod,0,by (try dsimp only);(rw [yJJ (x:=fun j p=>sc M j (raw p)) (p:=j) rfl]<;>rfl)⟩ (new_off l16.2.2 hms2) ht (by simpa [gq] using hxx) ?_
       intro vv zs h17 tk17 H4 F17 N17 st17
       replace N17:=yBv N17
       obtain ⟨_,_,hzl,_⟩:=H4.root
       replace H4:HS gq M raw rv (fun u=>mJn kq e (pl u)) e Ms rs.length (j+1) _ zs (cond gq (od - 1) (od+1)):=H4
       have g17:∀ q∈ms2,h17.get? q.1=some q.2:=fun q hq=>(N17 q (.tail _ (.tail _ (qF.mpr (.inl hq))))).1
       have hS17:St (j+1) h17:=last_news hS.ls hms2 hS14 g14 g17
       clear F16 N16 hS15 hS14 g14
       walk_at "r1"
       obtain ⟨T6,o6,ti6,mm6,v6,m6,ho6,_,l6⟩:=H4.top
       rw [show (zs.getD (Int.toNat 0) it0).v=.ref T6 from v6]
       have gT6:=(N17 _ (.tail _ (.tail _ (qF.mpr (.inr m6))))).1
       rw [ho6] at gT6
       refine assign_Tuple_tuple hA ⟨_,gT6,rfl,_,rfl⟩ rfl rfl fun h18 he18=>?_
       have st18:h17.StaysIn h18:=fun a o q=>he18 a o (vB (qU q)) q
       have F18:=fr_keeps F17 st18
       have N18:=news_keeps N17 st18
       clear F17 N17
       walk_at "r1"
       rename_i _ h19 F19 N19
       refine wpAny_loadName_local (by rfl) (by rfl) F19.ns (v:=.int od tod) (by exact e5) ?_
       walk_at "r1"
       rename_i h20 F20 N20
       subst hIV
       exact ⟨N+1 - (j+1),Nat.sub_lt_sub_left (lt_succ_of_lt hjN) (lt_succ_self j),j+1,zs,_,h20,_,_,_,ms2,rfl,⟨le_succ_of_le hj1,hjN⟩,rfl,F20,N20,⟨hms2,last_news hS.ls hms2 hS17 g17 fun q hq=>(N20 q (.tail _ (.tail _ (qF.mpr (.inl hq))))).1⟩,⟨e3,e6⟩,rfl,⟨_,rfl⟩,H4⟩
      ·rename_i hxx
       subst hIV
       exact ⟨N+1 - (j+1),Nat.sub_lt_sub_left (lt_succ_of_lt hjN) (lt_succ_self j),j+1,its,ts,h15,_,_,od,ms2,rfl,⟨le_succ_of_le hj1,hjN⟩,rfl,F15,N15,⟨hms2,hS15⟩,⟨by assumption,by assumption⟩,by assumption,⟨tod,by assumption⟩,H2.skip hnj ht (by simpa [gq] using hxx)⟩
     ·first | (have z:gq=true:=rfl;clear z;refine yQF (g:=false) hu2 hv2 (fun z=>ht (z.symm.trans (H2.fs _ r1).2)) ?_) | (refine yQF (g:=false) hv2 hu2 (fun z=>ht (z.trans (H2.fs _ r1).2)) ?_)
      refine ⟨hA,fun h' tk ex t hx=>?_⟩
      exact yBO (fun ex h' tk b2 x1 x2 x3=>hT (j+1) _ ex h' tk b2 ⟨hw0,.inr ⟨j,_,rfl,hjN,by lia,H2.fs,⟨hnj,ht⟩,fun i hi=>by rw [<- hnw];exact r2 i hi,r1,by unfold wdT;rw [qM hw1];first | done | rfl⟩,x1⟩ x2 x3) hfr F15 bs2 hsL (hS.rd _ _ hS15) lR hMl hx
    ·exact yZm (B':=h13) (fun ex h' tk b2 x1 x2 x3=>hV j ex h' tk b2 ⟨hw0,hjN,z1,fun i hi=>(H2.fs i hi).1,.inl H2.fs,x1⟩ x2 x3) hfr bs2 (fun _ _ z=>z2 _ _ (fb_sub F13 (fun x hx=>(offI x hx).2) (by rfl) _ _ z)) (hS.rd _ _ z3) z4 (yQa.of_keeps F13.keep)
   ·obtain rfl:j=N:=qH hj2 (qO hjN)
    refine endC_of (B:=hideAll h13 Ms) hS.fe hA5 hbI (hideAll h13 Ms) _ _ _ (fun _ _ q=>q) (fun _ _ q=>vL _ q) (fun a ha=>vK _ ha) hS13 fun h14 tk14 st14 hS14=>?_
    obtain ⟨ms2,hms2,F14,N14,g14⟩:=yJm F13 N13 hms hDM hcM H2.tm st14 (hS.as _ _ hS14)
    clear F13 N13
    walk1
    subst hQ2
    exact ⟨rfl,its,ts,h14,tk14,ma3,od,ms2,c8,rfl,F14,N14,e3,H2,hms2,hS14,rfl⟩
  ·intro f s' hq2
   subst hQ2
   obtain ⟨rfl,its,ts,h21,tk21,ma3,od,ms,c9,rfl,F21,N21,e3,H5,hms,hS21,rfl⟩:=hq2
   have e3':ma3 (Str.ofString "result")=some (.ref D):=e3
   have vN:=hv' N (vC _) fun i hi=>(H5.fs i hi).1
   walk_at "r1"
   first | (have z:gq=true:=rfl;clear z;refine callWith_builtin_kwB (by rfl) (by rfl) (evalArgs_kw0 (by rfl) (kws_cons ?_));walk_at "r1";refine wpAny_call_entry_kw slot_list_sort ⟨_,(N21 _ (.head _)).1,rfl⟩ entry_list_sort ?_ (args_sort_rev _ _);refine Eq.mpr (wE (fun z=>wpAny _ _ z _ _ _) (so_p1 D true)) ?_) | (refine vU slot_list_sort ⟨_,(N21 _ (.head _)).1,rfl⟩ entry_list_sort ?_ (args_list_sort _);refine Eq.mpr (wE (fun z=>wpAny _ _ z _ _ _) (so_p0 D)) ?_)
   refine yAi (dn:=gq) (n:=rs.length) (N:=N) (e:=e) (rv:=rv) (raw:=raw) (M:=M) (Ms:=Ms) (ts:=ts) (od:=od) (more:=fun u=>mJn kq e (pl u)) hA F21 N21 (off_D N21 d1 hms hDM H5.tu) (fun q hq=>.tail _ (qF.mpr (.inr hq))) H5 (by lia) hm1 vN ?_
   intro zs h22 tk22 c22 I6 hzm hzl F22 N22 st22
   refine ⟨_,rfl,?_⟩
   have hS22:St N h22:=last_news hS.ls hms hS21 (fun q hq=>(N21 q (.tail _ (.tail _ (qF.mpr (.inl hq))))).1) fun q hq=>(N22 q (.tail _ (.tail _ (qF.mpr (.inl hq))))).1
   have g22:∀ q∈ms,h22.get? q.1=some q.2:=fun q hq=>(N22 q (.tail _ (.tail _ (qF.mpr (.inl hq))))).1
   have hFst:=H5.fs
   clear F21 N21 H5
   walk_at "r1"
   refine yJZ (cl:=[]) (by with_unfolding_all rfl) (by decide +kernel) (by rfl) (by decide +kernel) ?_
   walk_at "r1"
   refine wpAny_pyIter_list (qW (N22 _ (.head _)).1) ?_
   intro C D2 h24 tk24 st24 nC nD nDC hC hD2
   have gI:(h22.push (liObj D 0)).get? h22.objs.size=some (liObj D 0):=qX _ rfl
   have st22p:h22.StaysIn (h22.push (liObj D 0)):=fun a o q=>qS _ q
   change (h22.push (liObj D 0)).StaysIn h24 at st24
   change (h22.push (liObj D 0)).get? C=none at nC
   change (h22.push (liObj D 0)).get? D2=none at nD
   obtain ⟨f1,hf1,hzv⟩:=yAw I6 (h:=h22) fun q hq=>(N22 q (.tail _ (.tail _ (qF.mpr (.inr hq))))).1
   rw [hzl] at hf1 hzv
   have off:=fun X q=>yAE (X:=X) gI (st22p _ _ (N22 _ (.head _)).1) (fun i hi=>by obtain ⟨mm,g⟩:=hf1 i hi;exact ⟨_,st22p _ _ g⟩) q
   refine ⟨fun Q E q=>yQG (st24 _ _ gI) rfl q,?_⟩
   first | (have z:kq=true:=rfl;clear z;refine yYk (I:=h22.objs.size) (R0:=D) (n:=rs.length) (c0:=c22) (f0:=fun i=>rv (pl (zs.getD i it0))) (f1:=f1) (f2:=fun i=>e (pl (zs.getD i it0))) (Ts:=fun i=>adOf (zs.getD i it0).v) (by exact hA) (by rfl) (by rfl) (by rfl) (by rfl) (by decide) (by decide) (by decide) (by lia) (st24 _ _ gI) (by rw [<- hzv];exact st24 _ _ (st22p _ _ (N22 _ (.head _)).1)) (fun i hi=>(hf1 i hi).imp fun mm g=>st24 _ _ (st22p _ _ g)) hC hD2 nDC (off C nC) (off D2 nD) (by decide) ?_) | (refine yYl (I:=h22.objs.size) (R0:=D) (n:=rs.length) (c0:=c22) (f0:=fun i=>rv (pl (zs.getD i it0))) (f1:=f1) (Ts:=fun i=>adOf (zs.getD i it0).v) (by exact hA) (by rfl) (by rfl) (by rfl) (by decide) (by lia) (st24 _ _ gI) (by rw [<- hzv];exact st24 _ _ (st22p _ _ (N22 _ (.head _)).1)) (fun i hi=>(hf1 i hi).imp fun mm g=>st24 _ _ (st22p _ _ g)) hC hD2 nDC (off C nC) (off D2 nD) (by decide) ?_)
   intro h25 tk25 m25 c25 n25 g25 k25
   refine ⟨rfl,m25,n25,fun h26 s26=>?_⟩
   have keep22:h22.StaysIn h26:=fun a o q=>by
    have q':=st22p _ _ q
    exact s26.extBut _ _ (fun r=>by rw [r,nC] at q';cases q') (k25 _ _ (fun r=>by rw [qC.mp r,qV (vC _)] at q;cases q) (fun r=>by rw [r,nC] at q';cases q') (fun r=>by rw [r,nD] at q';cases q') (st24 _ _ q'))
   have keepB:Ba2.StaysIn h26:=fun a o q=>keep22 _ _ (F22.keep _ _ q)
   have hpN:∀ p∈zs.map pl,p < N:=fun p hp=>by rw [hzm 0 (by decide)] at hp;exact ordD_mem.mp (mem_of_mem_take hp)
   refine hret _ _ <| hQ D2 h26 _ c25 (zs.map pl) (fun a o q=>keepB _ _ (bs2.st _ _ q)) (none_sub bs2.st (none_sub F22.keep (none_sub st22p nD))) (fun j hj=>by rw [hzm j hj,<- hmin,yAa]) (fun O=>hFst) ?_ ?_ (bs2.fr.trans (yQa.of_keeps keepB))
   ·have g26:=s26.extBut _ _ nDC g25
    first | rw [yVt rfl hzl,map_congr_left fun p hp=>(her p (hpN p hp)).symm] at g26 | rw [yVt rfl hzl] at g26
    exact g26
   ·have eN:(if 1<=wish then N else 0)=N:=by rw [qN hw0]
    rw [eN]
    exact hS.rd _ _ (last_news hS.ls hms hS22 g22 fun q hq=>keep22 _ _ (g22 q hq))
 ·intro ex h' tk fl
  obtain ⟨mm,hw,fl⟩:=fl.word
  exact yWu (B':=h8) (fun ex h' tk b2 x1 x2 x3=>hT rs.length mm ex h' tk b2 ⟨hw0,.inl ⟨by lia,hnt,hw⟩,x1⟩ x2 x3) hfr bs2 (fun _ _ z=>fb_sub F8 (fun x hx=>(offD x hx).2) (by rfl) _ _ z) (hS.rd _ _ (hS.ls _ _ _ hS8 fun a ha o z=>vJ _ (vJ _ z fun r=>hDM (by rw [<- qC.mp r];exact ha)) (off_fr bs2.ff (off_news hms8 fun q hq=>N8 q (.tail _ (.tail _ (qF.mpr (.inl hq))))) (by rfl) a ha))) fl (yQa.of_keeps F8.keep))
end K_n5_end
theorem yAU {dn ke:Bool} {A:Around} {s:Shared} {b:Heap} {Q E:VS} {N:Nat} {raw:Nat->Rw} {e rv:Nat->Value} {wish:Int} {t:Tok} {outer:List Env} {kv:Value} {Ms0:List Addr} {Rd:Nat->Heap->Prop} {M:Int} {L':Addr} {Ba2:Heap} {IT:Addr} {Ms:List Addr} {St Mid:Nat->Heap->Prop} {oc:Obj} {QF:Flow->Shared->Prop} {D:Addr} {h8:Heap} {tk8 c8:Nat} {m8:Str->Option Value} {ms8:List (Addr×Obj)} {rs:List (Value×List (Addr×Obj))}
  (hd:A.depth<=496) (hu:A.units<=470) (hA:A.handled=none) (hfr:A.frames=some outer) (hv:yZI N raw rv) (h128:N < 128) (hM:∀ p,p < N->(raw p).t=false->-M<=(raw p).z/\(raw p).z<=M)
  (hQ:∀ R h' tk c ord,b.StaysIn h'->b.get? R=none->(∀ j,j < 2->ord=(ordD (scR dn M raw j) N).take wish.toNat)->(1<=wish->Fst raw N)->h'.get? R=some (listOf (ord.map e).toArray c)->Rd (if 1<=wish then N else 0) h'->yQa outer s.heap h'->Q (.ref R) {s with heap:=h',toks:=tk})
  (hV:∀ j ex h' tk b2,A6 (1<=wish) (j < N) (raw j=.thorn) (∀ i,i < j->raw i≠.thorn) (Fst raw j\/(j:Int) < wish) ((fb b outer).StaysIn b2)->Rd (j+1) b2->yQs "ValueError" b2 outer s.heap (·=thW j) ex h'->E (.ref ex) {s with heap:=h',toks:=tk})
  (hT:∀ r mm ex h' tk b2,A3 (1<=wish) (Tw dn M raw N wish r mm) ((fb b outer).StaysIn b2)->Rd r b2->yQs "TypeError" b2 outer s.heap (·=mm) ex h'->E (.ref ex) {s with heap:=h',toks:=tk})
  (lR:yQU Ms0 Rd) (hMl:∀ a∈Ms0,a < L'/\a ∉ framesOf outer) (hsL:s.heap.get? L'=none) (hw1:wish≠1) (bs2:Bs b s.heap outer L' Ba2) (XB2:(hd01.heap_1 w.params).In Ba2) (TB2:Top p loose yQv mg mb Ba2)
  (hS:yCb prog w b kv N raw e rv IT Ms St Mid Rd) (hcM:(L'+1:Nat) ∉ Ms) (d1:oc.data=.cell (some kv)) (hke:cond ke (X2 fun fq fo=>A3 (kv=.ref fq) (b.get? fq=some fo) (∃ fd,fo.data=.func fd)) (kv=.none))
  (hret:∀ v s',Q v s'->QF (.ret v) s')
  (e_r:m8 (Str.ofString "result")=some (.ref D)) (e_i:m8 (Str.ofString "it")=some (.ref IT)) (e_n:m8 (Str.ofString "n")=some (.int wish t))
  (hlen:rs.length=min wish.toNat N) (hYP:∀ i r,rs[i]?=some r->YV raw rv (cond dn (-1) 1) (mJn ke e) i r.1 r.2) (F8:Fr Ba2 L' h8 m8) (hms8:ms8.map Prod.fst=Ms) (N8:News Ba2 L' h8 ((D,listOf (rs.map (·.1)).toArray c8)::(L'+1,oc)::(ms8++rs.flatMap (·.2)))) (hS8:St (min wish.toNat N) h8) (hDM:D ∉ Ms) (htm:∀ q∈rs.flatMap (·.2),q.1 ∉ Ms):
  wpAny (model prog w) (A.deeper (envN dn L')) (execs ((fnC dn ke).drop 2) (envN dn L')) QF
   (fun e s'=>wpAny (model prog w) (A.deeper (envN dn L')) (leaving (envN dn L') e) (fun _ s''=>E e s'') (fun e' s''=>E e' s'') s') {s with heap:=h8,toks:=tk8}:=
 eps (P:=U31 K_n5_end.zP) K_n5_end.zh (A,s,b,Q,E,N,raw,e,rv,wish,t,outer,kv,Ms0,Rd,M,L',Ba2,IT,Ms,St,Mid,oc,QF,D,h8,tk8,c8,m8,ms8,rs) dn ke hd hu hA hfr hv h128 hM hQ hV hT lR hMl hsL hw1 bs2 XB2 TB2 hS hcM d1 hke hret e_r e_i e_n hlen hYP F8 hms8 N8 hS8 hDM htm
namespace K_nboth3
def zP (A:Around) (s:Shared) (b:Heap) (Q E:VS) (LOG SRC:Addr) (N:Nat) (raw:Nat->Rw) (e rv:Nat->Value) (wish:Int) (t:Tok) (outer:List Env) (kv:Value) (lo:Obj) (ms0:List (Addr×Obj)) (Rd:Nat->Heap->Prop) (M:Int):Prop:=∀ (dn:Bool) (hd:A.depth<=496) (hu:A.units<=470) (hA:A.handled=none) (hfr:A.frames=some outer) (hff:s.heap.FunFrames b outer) (st:b.StaysIn s.heap) (hsz:b.objs.size<=s.heap.objs.size) (X:(hd01.heap_1 w.params).In b) (T:Top p loose yQv mg mb b) (hms:∀ q∈ms0,A3 (s.heap.get? q.1=some q.2) (b.get? q.1=none) (q.1 ∉ framesOf outer)) (lR:yQU (ms0.map Prod.fst) Rd) (hR0:Rd 0 s.heap) (hway:yZQ prog w b s.heap SRC kv N raw e rv LOG lo ms0 Rd) (h128:N < 128) (hv:yZI N raw rv) (hM:∀ p,p < N->(raw p).t=false->-M<=(raw p).z/\(raw p).z<=M) (hQ:∀ R h' tk c ord,b.StaysIn h'->b.get? R=none->(∀ j,j < 2->ord=(ordD (scR dn M raw j) N).take wish.toNat)->(1<=wish->Fst raw N)->h'.get? R=some (listOf (ord.map e).toArray c)->Rd (if 1<=wish then N else 0) h'->yQa outer s.heap h'->Q (.ref R) {s with heap:=h',toks:=tk}) (hV:∀ j ex h' tk b2,A6 (1<=wish) (j < N) (raw j=.thorn) (∀ i,i < j->raw i≠.thorn) (Fst raw j\/(j:Int) < wish) ((fb b outer).StaysIn b2)->Rd (j+1) b2->yQs "ValueError" b2 outer s.heap (·=thW j) ex h'->E (.ref ex) {s with heap:=h',toks:=tk}) (hT:∀ r mm ex h' tk b2,A3 (1<=wish) (Tw dn M raw N wish r mm) ((fb b outer).StaysIn b2)->Rd r b2->yQs "TypeError" b2 outer s.heap (·=mm) ex h'->E (.ref ex) {s with heap:=h',toks:=tk}),
  wpAny (model prog w) A (call (.ref (fnA dn)) [.int wish t,.ref SRC] [(Str.ofString "key",kv)]) Q E s
def zc:=ep (U19 zP) ⟨({},(start default).1,default,fun O O=>True,fun O O=>True,0,0,0,fun O=>.thorn,fun O=>.none,fun O=>.none,0,0,[],.none,default,[],fun O O=>True,0)⟩
def zd1:=zc.2.2.2.2.2.2.2.2
def zd2:=zd1.2.2.2.2.2.2.2.2
def A:=zc.1
def s:=zc.2.1
def b:=zc.2.2.1
def Q:=zc.2.2.2.1
def E:=zc.2.2.2.2.1
def LOG:=zc.2.2.2.2.2.1
def SRC:=zc.2.2.2.2.2.2.1
def N:=zc.2.2.2.2.2.2.2.1
def raw:=zd1.1
def e:=zd1.2.1
def rv:=zd1.2.2.1
def wish:=zd1.2.2.2.1
def t:=zd1.2.2.2.2.1
def outer:=zd1.2.2.2.2.2.1
def kv:=zd1.2.2.2.2.2.2.1
def lo:=zd1.2.2.2.2.2.2.2.1
def ms0:=zd2.1
def Rd:=zd2.2.1
def M:=zd2.2.2
theorem zh:zP A s b Q E LOG SRC N raw e rv wish t outer kv lo ms0 Rd M:=by
 intro dn hd hu hA hfr hff st hsz X T hms lR hR0 hway h128 hv hM hQ hV hT
 let gq:=dn
 cases dn<;>(
 have X2:=X.keeps st
 obtain ⟨L',hL'⟩:∃ L':Addr,L'=s.heap.objs.size:=⟨_,rfl⟩
 refine wpAny_call ?_
 (k_dflt (refine' yZo ?k1 ?k2 ?k3 ?k4 ?k6 ?k7 ?k8 ?k9 ?kB ?kD ?_ ?c2 ?c3 ?c4;(case k1=>assumption);(case k2=>assumption);(case k3=>assumption);(case k4=>assumption);(case k6=>k_is);(case k7=>k_is);(case k8=>exact vR (by assumption) (by decide));(case k9=>first | exact BindsTo.of_eq rfl | exact binds_K (by assumption) rfl (by k_is) rfl rfl rfl);(case kB=>exact rfl);(case kD=>decide +kernel);(case c2=>exact rfl);(case c3=>exact rfl);(case c4=>exact rfl)))
 intro ha1 tk cells F0 N00 Y hk
 obtain ⟨oc,rfl,d1⟩:=CellsAre.one Y
 clear Y
 rw [<- hL'] at F0 N00 d1 ⊢
 replace d1:oc.data=.cell (some kv):=d1
 obtain ⟨B,bs,F,N0,kn⟩:=yAm (L:=L') hff hk (qD hL'.symm) F0 N00 hms
 replace N0:=yAd N0
 have kn:∀ q∈(L'+1,oc)::ms0,q.1 ∉ L'::framesOf outer:=fun q hq=>kn q (by
  rcases qG.mp hq with r | r
  ·exact qF.mpr (.inr (by rw [r];exact .head _))
  ·exact qF.mpr (.inl r))
 have hbn:∀ q∈(L'+1,oc)::ms0,b.get? q.1=none:=fun q hq=>none_sub bs.st (N0 q hq).2.2
 have hu':∀ env,(A.deeper env).units<=473:=fun env=>by rw [Around.deeper_units];lia
 have hd':∀ env,(A.deeper env).depth<=497:=fun env=>succ_le_succ hd
 have hsL:s.heap.get? L'=none:=qV (qD hL'.symm)
 have hMl:∀ a∈ms0.map Prod.fst,a < L'/\a ∉ framesOf outer:=fun a ha=>by
  obtain ⟨q,hq,rfl⟩:=wB.mp ha
  obtain ⟨q1,_,q3⟩:=hms q hq
  exact ⟨by rw [hL'];exact qU q1,q3⟩
 have XB:=X.keeps bs.st
 have TB:=T.keeps bs.st
 (try k_fold)
 clear F0 N00 X2
 refine yYg hfr hA hd hu (by rfl) (by rfl) fun FF fr5 hA5 hd5 hu5=>?_
 walk_at "r1"
 ·
  have hw:wish=1:=by assumption
  refine yJz hway F (swapN N0) bs.st ?_
  rintro IT oI ms1 Ms St Mid h2 hS ⟨hoI,gI,gI',F2,N2,hms1,h0S,kI,hMs⟩
  replace N2:=yAd N2
  have g2:∀ q∈ms1,h2.get? q.1=some q.2:=fun q hq=>(N2 q (.tail _ hq)).1
  walk_at "r1"
  refine yWY ?_
  rename_i h3 F3 N3
  have F4:=F3.push { cls:=.type "object" }
  have N4:=N3.push F3 { cls:=.type "object" }
  have nS:h3.objs.size ∉ Ms:=fun z=>by
   rw [<- hms1] at z;obtain ⟨q,hq,e⟩:=wB.mp z
   have:=qU (N3 q (.tail _ hq)).1
   rw [e] at this;exact lt_irrefl _ this
  clear F3 N3
  walk_at "r1"
  rename_i h5 F5 N5
  have g5:∀ q∈ms1,h5.get? q.1=some q.2/\q.1≠L'/\B.get? q.1=none:=fun q hq=>N5 q (.tail _ (.tail _ hq))
  have off:=off_news hms1 g5
  have stM:B.StaysIn (hideAll h5 Ms):=fun a o q=>vJ _ (F5.keep _ _ q) fun z=>by rw [(off _ z).2] at q;cases q
  have hb5:b.StaysIn (hideAll h5 Ms):=fun _ _ q=>stM _ _ (bs.st _ _ q)
  have h05:St 0 h5:=last_news hS.ls hms1 h0S g2 fun q hq=>(g5 q hq).1
  have gI5:h5.get? IT=some oI:=gI' h5 F5.keep fun q hq=>(g5 q hq).1
  have hd1:A.depth+1<=498:=le_succ_of_le (succ_le_succ hd)
  have hu1:A.units+3+1<=790:=by lia
  refine yAI (g:=gq) (St:=St) (Mid:=Mid) (M:=M) (N:=N) (raw:=raw) (e:=e) (rv:=rv) (B:=hideAll h5 Ms) (Ms:=Ms) hA (FF F5 bs.ff off) (fun a ha=>vK _ ha) (off_fr bs.ff off (by rfl)) (fun a ha=>by rw [<- hms1] at ha;obtain ⟨q,hq,rfl⟩:=wB.mp ha;exact qU (g5 q hq).1) hS.ls hS.lm hv (nextC_of hS.fn hd1 hu1 hA fr5 (FF F5 bs.ff off) hb5) (endC_of hS.fe hA hb5) (hS.wayC hd1 hu1 hA fr5 (FF F5 bs.ff off) hb5) (fun Q E q=>pyIter_self hoI gI5 q) (fun a o q=>vL _ q) h05 ?_ ?_ ?_
  ·intro v h6 tk6 hF hv6 st6 hS6
   have F6:=fr_backM F5 off st6
   obtain ⟨ms2,e2,g6⟩:=yJy (hS.as _ _ hS6)
   have N6:News B L' h6 ((h3.objs.size,{ cls:=.type "object" })::ms2):=fun q hq=>by
    rcases qG.mp hq with rfl | hq
    ·exact ⟨st6 _ _ (vJ _ (N5 _ (.head _)).1 nS),(N5 _ (.head _)).2⟩
    ·exact ⟨g6 q hq,off _ (by rw [<- e2];exact List.mem_map_of_mem hq)⟩
   clear F5 N5
   rcases hv6 with ⟨hN0,rfl⟩ | ⟨q,rfl,hq,hqj⟩
   ·walk_at "r1"
    rename_i R h8 F8 N8 _
    exact hQ _ _ _ 0 [] (fun a o q=>F8.keep _ _ (bs.st _ _ q)) (none_sub bs.st (N8 _ (.head _)).2.2) (fun j hj=>by rw [hN0];exact List.take_nil.symm) (fun O=>hF) (N8 _ (.head _)).1 (by rw [qN (by lia)];exact hS.rd _ _ (last_news hS.ls e2 hS6 g6 fun q hq=>(N8 q (.tail _ (.tail _ hq))).1)) (bs.fr.trans (yQa.of_keeps F8.keep))
   ·walk_at "r1"
    rename_i h7 F7 N7
    refine yWc hway hv hq (hF q hq).1 (fun a o q=>F7.keep _ _ (bs.st _ _ q)) (none_sub bs.st (N7 _ (.head _)).2.2) (N7 _ (.head _)).1 ?_
    walk_at "r1"
    rename_i R h8 F8 N8 _
    refine hQ _ _ _ 0 [q] (fun a o q=>F8.keep _ _ (bs.st _ _ q)) (none_sub bs.st (N8 _ (.head _)).2.2) (fun j hj=>?_) (fun O=>hF) (N8 _ (.head _)).1 (by rw [qN (by lia)];exact hS.rd _ _ (last_news hS.ls e2 hS6 g6 fun q hq=>(N8 q (.tail _ (.tail _ hq))).1)) (bs.fr.trans (yQa.of_keeps F8.keep))
    rw [hw,yXI (vR (vZ _) hq),<- hqj j hj]
  ·rintro j q H h' tk ex t ⟨hj,hF,hn,ht,hqj⟩ hq stH hSH hx
   exact yZn (fun ex h' tk b2 x1 x2 x3=>hT (j+1) _ ex h' tk b2 ⟨by lia,.inr ⟨j,q,rfl,hj,by lia,hF,⟨hn,ht⟩,by rw [hw];exact hq,hqj,by unfold wdT;rw [qN hw];first | done | rfl⟩,x1⟩ x2 x3) hfr (fr_backM F5 off stH) bs (hS.rd _ _ hSH) lR hMl hx
  ·intro j ex h' tk b2 hj hF hth hb2 hS2 fl
   exact yWu (B':=hideAll h5 Ms) (fun ex h' tk b2 x1 x2 x3=>hV j ex h' tk b2 ⟨by lia,hj,hth,fun i hi=>(hF i hi).1,.inl hF,x1⟩ x2 x3) hfr bs (fun _ _ z=>hb2 _ _ (fb_sub F5 (fun x hx=>(off x hx).2) (by rfl) _ _ z)) (hS.rd _ _ hS2) fl (yQa.of_keeps stM)
 ·have hw1:wish≠1:=by assumption
  obtain ⟨Q1,hQ1⟩:∃ Q1:Flow->Shared->Prop,Q1=fun f s'=>(f=.next/\X4 fun ha2 tka2 ma2 Ba2=>A7 (s'={s with heap:=ha2,toks:=tka2}) (Fr Ba2 L' ha2 ma2) (News Ba2 L' ha2 ((L'+1,oc)::ms0)) (ma2 (Str.ofString "n")=some (.int wish t)) (ma2 (Str.ofString "iterable")=some (.ref SRC)) (Bs b s.heap outer L' Ba2) (Rd 0 ha2))\/(∃ v,f=.ret v/\Q v s'):=⟨_,rfl⟩
  refine qL (Q:=Q1) ?_ ?_ fun _ _ e=>e
  ·
   refine wpAny_Try_except ?_
   have hsrc:(X3 fun fq fo cL=>A6 (kv=.ref fq) (yZR prog w b LOG N raw (fun j x=>x=e j) rv fq) (b.get? SRC=some (listOf ((List.range N).map e).toArray cL)) (yQI 0 lo) (ms0=[(LOG,lo)]) (Rd=LG LOG/\fo=b))\/∃ oI,yJI oI/\ha1.get? SRC=some oI:=by
    rcases id hway with ⟨fq,fo,LST,cL,hkv,hfo,hky,hL,⟨hlb,hlo⟩,⟨e0,hm0,hRd⟩ | ⟨hs0,_,hm0,_⟩,_⟩ | ⟨fq,TI,RI,T,hkv,her,hz,_⟩
    ·exact .inl ⟨fq,b,cL,hkv,hky,by rw [e0];exact hL,hlo,hm0,hRd,rfl⟩
    ·exact .inr ⟨_,.inl ⟨_,_,rfl⟩,hk _ _ hs0⟩
    ·exact .inr ⟨_,.inr ⟨_,_,rfl⟩,F.keep _ _ (bs.st _ _ hz)⟩
   rcases hsrc with ⟨fq,_,cL,hkv,hky,hL,hlo,hm0,hRd,_⟩ | ⟨oI,hoI,gI⟩
   ·walk_at "r1"
    refine Calls.call_len_list (qW (F.keep _ _ (bs.st _ _ hL))) (by simp;lia) ?_
    rw [show ((List.range N).map e).toArray.size=N by simp]
    walk_at "r1"
    ·rename_i h4 F4 N4 hge
     rw [hm0] at N4
     have offL:∀ x∈[LOG],x≠L'/\B.get? x=none:=fun x hx=>by rw [qC.mp hx];exact (N4 _ (.tail _ (.head _))).2
     have stL:B.StaysIn (hideAll h4 [LOG]):=fun a o q=>vJ _ (F4.keep _ _ q) fun z=>by rw [(offL _ z).2] at q;cases q
     have hL1:(L'+1:Nat) ∉ [LOG]:=fun z=>by
      have:=hMl LOG (by rw [hm0];exact .head _)
      rw [<- qC.mp z] at this
      exact absurd this.1 (vX.mpr (le_succ _))
     refine qL (Q:=fun v s'=>X5 fun R h5 tk5 c5 ord=>A8 (v=.ref R) ((hideAll h4 [LOG]).StaysIn h5) (LG LOG N h5) (h4.get? R=none) (h5.get? R=some (listOf (ord.map e).toArray c5)) (∀ j,j < 2->ord=ordD (scR gq M raw j) N) (Fst raw N) (s'={s with heap:=h5,toks:=tk5})) ?_ ?_ fun _ _ e=>e
     ·rw [hkv]
      first | (have z:gq=true:=rfl;clear z;show wpAny _ _ (call (.builtin "sorted") [.ref SRC] [(Str.ofString "key",.ref fq),(Str.ofString "reverse",.bool true)]) _ _ _) | (show wpAny _ _ (call (.builtin "sorted") [.ref SRC] [(Str.ofString "key",.ref fq)]) _ _ _)
      refine yJL (LOG:=LOG) (fq:=fq) (rev:=gq) (N:=N) (raw:=raw) (e:=e) (M:=M) (lo0:=lo) (by first | (have z:gq=true:=rfl;clear z;exact (check_sorted2 · _ _)) | (exact (check_sorted1 · _))) (by first | (have z:gq=true:=rfl;clear z;exact fun a=>ksk_l2 _ _ _) | (exact fun a=>ksk_l1 _ _)) (by first | (have z:gq=true:=rfl;clear z;exact fun R=>yDn fq R true) | (exact fun R=>yDo fq R)) (F4.keep _ _ (bs.st _ _ hL)) h128 (N4 _ (.tail _ (.head _))).1 hlo hA (FF F4 bs.ff offL) ?_ ?_ ?_ ?_
      ·intro j b' s' lo' Q' E' hj f1 f2 f3 f4 f5 f6 f7 kQ kE
       refine hky j _ _ _ b' s' Q' E' hj rfl (by show A.depth+1<=499;lia) (by show A.units+3+1+1<=800;lia) hA fr5 f1 (fun a o q=>f2 _ _ (stL _ _ (bs.st _ _ q))) f3 f4 f5 ⟨lo',f6,f7⟩ (fun h' tk q1 q2 q3=>?_) fun ex h' tk b2 q1 q2 q3 q4=>?_
       ·obtain ⟨l3,q3,q4⟩:=q3
        exact kQ _ h' tk l3 (hv j hj q1) q2 q3 q4
       ·obtain ⟨l3,q3,q5⟩:=q3
        exact kE ex h' tk b2 l3 q1 q2 q3 q5 q4
      ·intro R ord h5 tk5 c5 lo5 o1 o2 st5 l1 l2 hR5 gR5
       have o3:=yCA (M:=M) (raw:=raw) o2
       exact ⟨R,h5,tk5,c5,ord,rfl,st5,⟨lo5,l1,l2⟩,hR5,gR5,o3,yXE (M:=M) (dn:=gq) hM o1 fun j hj=>by rw [<- o3 j hj],rfl⟩
      ·intro H h' tk ex mm t lo5 o1 stH l1 l2 hx hm
       have hpos:1<=wish:=by
        obtain ⟨a,_,⟨i,hi,_⟩,_⟩:=hm
        lia
       exact yZn (Rd:=Rd) (r:=N) (fun ex h' tk b2 x1 x2 x3=>hT N _ ex h' tk b2 ⟨hpos,.inl ⟨by lia,o1,hm⟩,x1⟩ x2 x3) hfr (fr_backM F4 offL stH) bs (by rw [hRd];exact ⟨lo5,l1,l2⟩) lR hMl hx
      ·intro j ex h' tk b2 lo5 hj o1 hth hb2 l1 l2 fl
       exact yWu (B':=hideAll h4 [LOG]) (Rd:=Rd) (r:=j+1) (fun ex h' tk b2 x1 x2 x3=>hV j ex h' tk b2 ⟨by lia,hj,hth,o1,.inr (by lia),x1⟩ x2 x3) hfr bs (fun _ _ z=>hb2 _ _ (fb_sub F4 (fun x hx=>(offL x hx).2) (by rfl) _ _ z)) (by rw [hRd];exact ⟨lo5,l1,l2⟩) (fl.from (yQa.of_keeps fun _ _ z=>vL _ z)) (yQa.of_keeps stL)
     rintro v s' ⟨R,h5,tk5,c5,ord,rfl,st5,⟨lo5,gl5,il5⟩,hR5,gR5,hord,hFst,rfl⟩
     have F5:=fr_backM F4 offL st5
     have nRL:R≠L':=fun q=>by obtain ⟨o,ho⟩:=yQk F4.ns;have ho:h4.get? L'=some o:=ho;rw [<- q,hR5] at ho;cases ho
     have N5:News B L' h5 [(R,listOf (ord.map e).toArray c5),(LOG,lo5)]:=fun q hq=>by
      simp only [qG,wG,or_false] at hq
      rcases hq with rfl | rfl
      ·exact ⟨gR5,nRL,none_sub F4.keep hR5⟩
      ·exact ⟨gl5,offL _ (.head _)⟩
     have hol:ord.length=N:=by rw [hord 0 (by decide),ordD_len]
     clear F4 N4
     walk_at "r1"
     rename_i h6 F6 N6
     subst hQ1
     refine .inr ⟨_,rfl,hQ _ _ _ 0 (ord.take wish.toNat) (fun a o q=>F6.keep _ _ (bs.st _ _ q)) (none_sub bs.st (N6 _ (.head _)).2.2) (fun j hj=>by rw [hord j hj]) (fun O=>hFst) ?_ ?_ (bs.fr.trans (yQa.of_keeps F6.keep))⟩
     ·have z:=(N6 _ (.head _)).1
      have e1:∀ k:Nat,slicePick ((ord.map e).toArray) none (some (k:Int)) none=((ord.take (k:Int).toNat).map e).toArray:=fun k=>by
       rw [slicePick_upto'];simp [map_take]
      have e2:wish=((wish.toNat:Nat):Int):=by lia
      rw [e2,e1,<- e2] at z;exact z
     ·have e3:(if 1<=wish then N else 0)=N:=by split<;>lia
      rw [e3,hRd]
      exact ⟨lo5,(N6 _ (.tail _ (.tail _ (.head _)))).1,il5⟩
    ·rename_i h4 F4 N4 hge
     subst hQ1
     exact .inl ⟨rfl,h4,_,_,B,rfl,F4,N4,rfl,rfl,bs,last_news lR rfl hR0 (fun q hq=>by obtain ⟨q1,_⟩:=hms q hq;exact q1) fun q hq=>(N4 q (.tail _ hq)).1⟩
   ·walk_at "r1"
    refine yVK hoI gI hA fun h2 tk2 ex hx=>?_
    refine yCC (B:=hideAll ha1 (L'::framesOf outer)) (outer:=outer) (L:=L') (by show A.frames.map _=_;rw [hfr];rfl) rfl ?_ (fun a o q=>vL _ q) hx ?_
    ·refine Heap.FunFrames.cons (by intro q;cases q) rfl F.ns (vK _ (.head _)) (hide_frames (b:=b) (hff.of_keeps fun a o q _=>⟨o,hk _ _ q,rfl⟩) fun env he a ha=>.tail _ (framesOf_mem env he a ha))
    intro h3 a0 hen st3 ff3 tr3 up3
    obtain ⟨oe,vs,TT,oT,ts,B3,F3,N3,bs3,g2,g3,g4,g8,hsz3,nT⟩:=yXL hff hk (qD hL'.symm) F N0 bs hbn kn hx hen st3 ff3 tr3 up3
    have XB3:=X.keeps bs3.st
    have TB3:=T.keeps bs3.st
    clear F N0 XB TB
    refine wpAny_handleBy_tup2 (T1:="TypeError") (T2:="AttributeError") (X:="TypeError") (b1:=true) (b2:=false) (vW (by decide +kernel)) (vW (by decide +kernel)) (vW (by decide +kernel)) (vW (by decide +kernel)) (vW (by decide +kernel)) (vW (by decide +kernel)) ?_
    walk_at "r1"
    refine' nameX_B (v:=.type "AttributeError") ?zF ?zX ?zT ?ze ?zv ?zn ?_ ?za ?zb ?zc;(case zF=>k_asm);(case zX=>k_asm);(case zT=>k_asm);(case za=>rfl);(case zb=>rfl);(case zc=>decide);(case ze=>k_is);(case zv=>decide +kernel);(case zn=>decide)
    walk_at "r1"
    ·rename_i D4 h4 F4 N4 _
     exact ⟨_,(N4 _ (.head _)).1,rfl,_,rfl⟩
    ·rename_i D4 h4 F4 N4 _
     exact ⟨oe,(N4 _ (.tail _ (.head _))).1,g2⟩
    rename_i D4 h4 F4 N4 _
    refine wpAny_setFlight_none (tb:=TT) (N4 _ (.tail _ (.head _))).1 g3 g4 (N4 _ (.tail _ (.tail _ (.head _)))).1 g8 hsz3 ?_
    have sb:=wC h4 TT (Obj.mapFields (·.setIfInBounds 3 Value.none))
    have F5:=fr_change F4 N4 (.tail _ (.tail _ (.head _))) sb
    have N5:News B3 L' _ ((L'+1,oc)::ms0):=yYI (fun q hq=>N4 q (.tail _ (.tail _ (.tail _ hq)))) sb nT
    clear F4 N4
    generalize h4.update TT (Obj.mapFields (·.setIfInBounds 3 Value.none))=h5 at *
    walk_at "r1"
    subst hQ1
    exact .inl ⟨rfl,h5,_,_,B3,rfl,F5,N5,rfl,rfl,bs3,last_news lR rfl hR0 (fun q hq=>by obtain ⟨q1,_⟩:=hms q hq;exact q1) fun q hq=>(N5 q (.tail _ hq)).1⟩
  ·intro f s' hq1
   subst hQ1
   rcases hq1 with ⟨rfl,ha2,tka2,ma2,Ba2,rfl,F2,N2,e1,e2,bs2,hR2⟩ | ⟨v,rfl,hq⟩
   ·have XB2:=X.keeps bs2.st
    have TB2:=T.keeps bs2.st
    clear F N0 XB TB bs
    by_cases hk0:kv=.none
    ·
     rw [hk0] at d1
     walk_at "r1"
     refine yJz hway F2 (swapN N2) bs2.st ?_
     rintro IT oI ms1 Ms St Mid h3 hS ⟨hoI,gI,gI',F3,N3,hms1,h0S,kI,hMs⟩
     replace N3:=yAd N3
     have hcM:(L'+1:Nat) ∉ Ms:=fun z=>by
      rcases hMs _ z with r | r
      ·exact absurd (hMl _ r).1 (vX.mpr (le_succ _))
      ·rw [(N2 _ (.head _)).1] at r;cases r
     have g3:∀ q∈ms1,h3.get? q.1=some q.2:=fun q hq=>(N3 q (.tail _ hq)).1
     clear F2 N2
     obtain ⟨her,hmid⟩:(∀ j,j < N->e j=rv j)/\∀ j h,Mid j h->raw j≠.thorn/\St (j+1) h:=by
      rcases hS.way with ⟨_,h1,h2⟩ | ⟨fq,hfq,_⟩
      ·exact ⟨h1,h2⟩
      ·rw [hk0] at hfq;cases hfq
     walk_at "r1"
     refine yJS (b:=b) (B:=Ba2) (L:=L') (IT:=IT) (m:=fun y=>if y=Str.ofString "it" then some (.ref IT) else ma2 y) (cl:=[]) (a0:=0) (step:=(cond gq (-1) 1)) (n:=min wish.toNat N) (left:=wish.toNat) (N:=N) (e:=e) (nw:=[(L'+1,oc)]) (ms:=ms1) (Ms:=Ms) (raw:=raw) (kv:=kv) (St:=St) (Mid:=Mid) (outer:=outer) (YV raw rv (cond gq (-1) 1) (mJn false e))
      (by rfl) (by rfl) (by rfl) (by with_unfolding_all rfl) (by with_unfolding_all rfl) (by decide +kernel) (by decide +kernel) (by rfl) (by rfl) (by intro _;rfl) (by exact hA) (by rfl) (by rfl) (by rfl) (by decide) (by rfl) (by lia) hS.fn hS.fe hS.ls hS.lm hS.am hS.as hd5 (Nat.le_of_succ_le hu5) fr5 bs2.ff bs2.st hms1 (fun q hq=>by rw [qC.mp hq];exact hcM) ?_ ?_ ?_ ?_
     ·walk_at "r1"
      exact qL (zip_made3 hoI (gI' _ (Fr.keep (by assumption)) fun q hq=>(by assumption:News Ba2 L' _ _) q (.tail _ hq) |>.1) (by assumption) (swapN (by assumption)) (by assumption) (size_v gq wish) ⟨_,_,rfl⟩) (fun v s' hz=>yYQ hS.ls hms1 h0S g3 hz) fun _ _ e=>e
     ·intro C j h ma3 tk t Q' E' hj hC sB ff hnw hM hn q1 q2 kQ kE
      refine Tuple_ (spliced_more (load_c rfl rfl hn q2 (spliced_more (load_c rfl rfl hn q1 (spliced_none ?_)))))
      refine wpAny_newObj_type (kQ _ _ _ [(h.objs.size,_)] (fun c o _ q=>qS _ q) (hS.ls _ _ _ (hmid j h hM).2 fun _ _ _ q=>qS _ q) ⟨_,t,(hmid j h hM).1,rfl,by rw [<- her j (qP hj (min_le_right _ _))]⟩ fun q hq=>?_)
      rw [qC] at hq;subst hq
      exact ⟨qX _ rfl,qV (vC _)⟩
     ·intro D h8 tk8 c8 ms8 rs hlen hYP F8 hms8 N8 hS8 hDM htm
      exact yAU (s:=s) (dn:=gq) (ke:=false) (t:=t) (kv:=kv) hd hu hA hfr hv h128 hM hQ hV hT lR hMl hsL hw1 bs2 XB2 TB2 hS hcM (by rw [hk0];exact d1) hk0 (by exact fun _ _ z=>z) (by rfl) (by rfl) (by exact e1) hlen hYP F8 hms8 (news_start N8) hS8 hDM htm
     ·rintro j ex h' tk b2 rs ⟨q1,q2,q3,q4⟩ ⟨q5,q6,q7⟩
      exact yBc (fun ex h' tk b2 x1 x2 x3=>hV j ex h' tk b2 ⟨yDu rfl (Nat.zero_lt_of_lt q3),qP q3 (min_le_right _ _),q4,fun i hi=>by
       obtain ⟨_,_,z,_⟩:=q2 i rs[i] (qT (by rw [q1];exact hi))
       exact z,.inr (np34 q3),x1⟩ x2 x3) bs2 q5 (hS.rd _ _ q6) q7
    ·
     have hke:X2 fun fq fo=>A3 (kv=.ref fq) (b.get? fq=some fo) (∃ fd,fo.data=.func fd):=by
      rcases id hway with ⟨fq,fo,_,_,hkv,⟨h1,h2⟩,_⟩ | ⟨_,_,_,_,hkv,_⟩
      ·exact ⟨fq,fo,hkv,h1,h2⟩
      ·exact absurd hkv hk0
     obtain ⟨fq,fo,hkv,hfq,fd,hfd⟩:=id hke
     rw [hkv] at d1
     walk_at "r1"
     refine yJz hway F2 (swapN N2) bs2.st ?_
     rintro IT oI ms1 Ms St Mid h3 hS ⟨hoI,gI,gI',F3,N3,hms1,h0S,kI,hMs⟩
     replace N3:=yAd N3
     have hcM:(L'+1:Nat) ∉ Ms:=fun z=>by
      rcases hMs _ z with r | r
      ·exact absurd (hMl _ r).1 (vX.mpr (le_succ _))
      ·rw [(N2 _ (.head _)).1] at r;cases r
     have g3:∀ q∈ms1,h3.get? q.1=some q.2:=fun q hq=>(N3 q (.tail _ hq)).1
     have off3:=off_news hms1 fun q hq=>N3 q (.tail _ hq)
     clear F2 N2
     have hK:yZM prog w b fq N raw e rv Ms St Mid:=by
      rcases hS.way with ⟨h,_⟩ | ⟨fq',h1,h2⟩
      ·exact absurd h hk0
      ·rw [hkv] at h1;cases h1;exact h2
     walk_at "r1"
     refine yJS (b:=b) (B:=Ba2) (L:=L') (IT:=IT) (m:=fun y=>if y=Str.ofString "it" then some (.ref IT) else ma2 y) (cl:=[(Str.ofString "key",L'+1)]) (a0:=0) (step:=(cond gq (-1) 1)) (n:=min wish.toNat N) (left:=wish.toNat) (N:=N) (e:=e) (nw:=[(L'+1,oc)]) (ms:=ms1) (Ms:=Ms) (raw:=raw) (kv:=kv) (St:=St) (Mid:=Mid) (outer:=outer) (YV raw rv (cond gq (-1) 1) (mJn true e))
      (by rfl) (by rfl) (by rfl) (by with_unfolding_all rfl) (by with_unfolding_all rfl) (by decide +kernel) (by decide +kernel) (by rfl) (by rfl) (by intro _;rfl) (by exact hA) (by rfl) (by rfl) (by rfl) (by decide) (by rfl) (by lia) hS.fn hS.fe hS.ls hS.lm hS.am hS.as hd5 (Nat.le_of_succ_le hu5) fr5 bs2.ff bs2.st hms1 (fun q hq=>by rw [qC.mp hq];exact hcM) ?_ ?_ ?_ ?_
     ·walk_at "r1"
      exact qL (zip_made3 hoI (gI' _ (Fr.keep (by assumption)) fun q hq=>(by assumption:News Ba2 L' _ _) q (.tail _ hq) |>.1) (by assumption) (swapN (by assumption)) (by assumption) (size_v gq wish) ⟨_,_,rfl⟩) (fun v s' hz=>yYQ hS.ls hms1 h0S g3 hz) fun _ _ e=>e
     ·intro C j h ma3 tk t Q' E' hj hC sB ff hnw hM hn q1 q2 kQ kE
      have hj':j < N:=qP hj (min_le_right _ _)
      have bI:b.StaysIn (hideAll h Ms):=fun a o q=>vJ _ (sB _ _ (bs2.st _ _ q)) fun z=>by rw [none_sub bs2.st (off3 _ z).2] at q;cases q
      refine Tuple_ (spliced_more ?_)
      walk1
      refine yQD (by rfl) (by rfl) (by rfl) (hnw _ (.head _)) d1 ?_
      refine callWith_def hfd ?_
      refine spliced_more (load_c (by rfl) (by rfl) hn q2 (spliced_none ?_))
      refine ⟨sB _ _ (bs2.st _ _ hfq),?_⟩
      refine hK j _ _ (hideAll h Ms) _ _ _ hj' hd5 (qZ (Nat.le_of_succ_le hu5) (by decide)) hA5 fr5 ff bI (fun _ _ q=>vL _ q) (by rw [hideAll_size];exact vC _) (fun a ha=>vK _ ha) hM (fun h7 tk7 hnt st7 hS7=>?_) fun ex h7 tk7 b2 z1 z2 z3 z4=>?_
      ·have kh:∀ c o,c ∉ Ms->h.get? c=some o->h7.get? c=some o:=fun c o c1 q=>st7 _ _ (vJ _ q c1)
       have hn7:=ns_at hn fun o q=>kh _ _ hC q
       refine spliced_more (load_c (by rfl) (by rfl) hn7 q1 (spliced_more (load_c (by rfl) (by rfl) hn7 q2 (spliced_none ?_))))
       refine wpAny_newObj_type (kQ _ _ _ [(h7.objs.size,_)] (fun c o c1 q=>qS _ (kh c o c1 q)) (hS.ls _ _ _ hS7 fun _ _ _ q=>qS _ q) ⟨_,t,hnt,rfl,rfl⟩ fun q hq=>?_)
       rw [qC] at hq;subst hq
       refine ⟨qX _ rfl,?_⟩
       cases z:h.get? h7.objs.size with
       | none=>rfl
       | some o=>
        by_cases c1:h7.objs.size∈Ms
        ·obtain ⟨o',ho⟩:=hS.as _ _ hS7 _ c1
         exact absurd (qU ho) (lt_irrefl _)
        ·exact absurd (qU (kh _ _ c1 z)) (lt_irrefl _)
      ·exact kE ex h7 tk7 b2 z1 (fun c o c1 c2 q=>z2 _ _ (vJ _ (vJ _ q c1) c2)) z3 z4
     ·intro D h8 tk8 c8 ms8 rs hlen hYP F8 hms8 N8 hS8 hDM htm
      exact yAU (s:=s) (dn:=gq) (ke:=true) (t:=t) (kv:=kv) hd hu hA hfr hv h128 hM hQ hV hT lR hMl hsL hw1 bs2 XB2 TB2 hS hcM (by rw [hkv];exact d1) hke (by exact fun _ _ z=>z) (by rfl) (by rfl) (by exact e1) hlen hYP F8 hms8 (news_start N8) hS8 hDM htm
     ·rintro j ex h' tk b2 rs ⟨q1,q2,q3,q4⟩ ⟨q5,q6,q7⟩
      exact yBc (fun ex h' tk b2 x1 x2 x3=>hV j ex h' tk b2 ⟨yDu rfl (Nat.zero_lt_of_lt q3),qP q3 (min_le_right _ _),q4,fun i hi=>by
       obtain ⟨_,_,z,_⟩:=q2 i rs[i] (qT (by rw [q1];exact hi))
       exact z,.inr (np34 q3),x1⟩ x2 x3) bs2 q5 (hS.rd _ _ q6) q7
   ·exact hq)
end K_nboth3
section
variable {A:Around} {s:Shared} {b:Heap} {Q:VS} {E:VS} {LOG SRC:Addr} {N:Nat} {raw:Nat->Rw} {e rv:Nat->Value} {wish:Int} {t:Tok} {outer:List Env} {kv:Value} {lo:Obj} {ms0:List (Addr×Obj)} {Rd:Nat->Heap->Prop} {M:Int}
theorem yCF {dn:Bool} (hd:A.depth<=496) (hu:A.units<=470) (hA:A.handled=none) (hfr:A.frames=some outer) (hff:s.heap.FunFrames b outer) (st:b.StaysIn s.heap) (hsz:b.objs.size<=s.heap.objs.size) (X:(hd01.heap_1 w.params).In b) (T:Top p loose yQv mg mb b)
  (hms:∀ q∈ms0,A3 (s.heap.get? q.1=some q.2) (b.get? q.1=none) (q.1 ∉ framesOf outer)) (lR:yQU (ms0.map Prod.fst) Rd) (hR0:Rd 0 s.heap) (hway:yZQ prog w b s.heap SRC kv N raw e rv LOG lo ms0 Rd) (h128:N < 128) (hv:yZI N raw rv) (hM:∀ p,p < N->(raw p).t=false->-M<=(raw p).z/\(raw p).z<=M)
  (hQ:∀ R h' tk c ord,b.StaysIn h'->b.get? R=none->(∀ j,j < 2->ord=(ordD (scR dn M raw j) N).take wish.toNat)->(1<=wish->Fst raw N)->h'.get? R=some (listOf (ord.map e).toArray c)->Rd (if 1<=wish then N else 0) h'->yQa outer s.heap h'->Q (.ref R) {s with heap:=h',toks:=tk})
  (hV:∀ j ex h' tk b2,A6 (1<=wish) (j < N) (raw j=.thorn) (∀ i,i < j->raw i≠.thorn) (Fst raw j\/(j:Int) < wish) ((fb b outer).StaysIn b2)->Rd (j+1) b2->yQs "ValueError" b2 outer s.heap (·=thW j) ex h'->E (.ref ex) {s with heap:=h',toks:=tk})
  (hT:∀ r mm ex h' tk b2,A3 (1<=wish) (Tw dn M raw N wish r mm) ((fb b outer).StaysIn b2)->Rd r b2->yQs "TypeError" b2 outer s.heap (·=mm) ex h'->E (.ref ex) {s with heap:=h',toks:=tk}):
  wpAny (model prog w) A (call (.ref (fnA dn)) [.int wish t,.ref SRC] [(Str.ofString "key",kv)]) Q E s:=
 eps (P:=U19 K_nboth3.zP) K_nboth3.zh (A,s,b,Q,E,LOG,SRC,N,raw,e,rv,wish,t,outer,kv,lo,ms0,Rd,M) dn hd hu hA hfr hff st hsz X T hms lR hR0 hway h128 hv hM hQ hV hT
end
end
section
variable {A:Around} {s:Shared} {E:VS} {env:Env}
structure yJt (prog:Program) (w:World) (A:Around) (tgt:Expr) (I:Addr) (deps:List Addr) (n:Nat) (V:Nat->Value->Prop) (St:Nat->Heap->Prop):Prop where
 turn:∀ (s:Shared) (j:Nat) (Q:Option Value->Shared->Prop) (E:VS),j < n->St j s.heap->(∀ v h' tk',V j v->St (j+1) h'->Heap.SameBut I s.heap h'->Q (some v) {s with heap:=h',toks:=tk'})->wpAny (model prog w) A (pyNext (.ref I)) Q E s
 done:∀ (s:Shared) (Q:Option Value->Shared->Prop) (E:VS),St n s.heap->(∀ h' tk',Heap.ExtBut I s.heap h'->Q none {s with heap:=h',toks:=tk'})->wpAny (model prog w) A (pyNext (.ref I)) Q E s
 iter:∀ (s:Shared) (j:Nat) (Q:VS) (E:VS),St j s.heap->Q (.ref I) s->wpAny (model prog w) A (pyIter (.ref I)) Q E s
 own:∀ (s:Shared) (j:Nat) (v:Value) (Q:Unit->Shared->Prop) (E:VS),V j v->St (j+1) s.heap->Q () s->wpAny (model prog w) A (letOwnedTupleGo tgt (.ref I) v) Q E s
 alive:∀ j h,St j h->∀ a∈I::deps,∃ o,h.get? a=some o
 frame:∀ j h h',St j h->(∀ c o,c∈I::deps->h.get? c=some o->h'.get? c=some o)->St j h'
def liSt (I R:Addr) (e:Nat->Value) (n c0:Nat) (j:Nat) (h:Heap):Prop:=h.get? I=some (liObj R j)/\h.get? R=some (listOf ((List.range n).map e).toArray c0)
def yCW (tgt:Expr) (e:Nat->Value):Prop:=(X2 fun x px=>tgt=.Name x px)\/X3 fun es k ps=>tgt=.Tuple es k ps/\∀ j,∃ T,e j=.ref T
theorem yYW {tgt:Expr} {I R:Addr} {e:Nat->Value} {n c0:Nat} (hh:A.handled=none) (ht:yCW tgt e):yJt prog w A tgt I [R] n (fun j v=>v=e j) (liSt I R e n c0) where
 turn:=fun s j Q E hj g k=>by
  have lI:R≠I:=fun q=>by have g2:=g.2;rw [q,g.1] at g2;have:=wE Obj.data (wD g2);simp [liObj,W.listOf] at this
  exact pyNext_li_item g.1 g.2 (x:=e j) (by simp [hj]) fun ha2 k1 s2=>k _ _ _ rfl ⟨k1,s2.extBut _ _ lI g.2⟩ s2
 done:=fun s Q E g k=>pyNext_li_end hh g.1 g.2 (by simp) fun h' a b=>k _ _ b
 iter:=fun s j Q E g k=>wpAny_pyIter_listiter (li_is g.1) k
 own:=fun s j v Q E hv g k=>by
  rcases ht with ⟨x,px,rfl⟩ | ⟨es,kk,ps,rfl,he⟩
  ·exact qI k
  ·obtain ⟨T,q⟩:=he j
   rw [hv,q];exact wpAny_letOwnedTupleGo_listiter (li_is g.1) k
 alive:=fun j h g a ha=>by
  simp only [qG,wG,or_false] at ha
  exact ha.elim (fun q=>⟨_,by rw [q];exact g.1⟩) fun q=>⟨_,by rw [q];exact g.2⟩
 frame:=fun j h h' g k=>⟨k _ _ (.head _) g.1,k _ _ (.tail _ (.head _)) g.2⟩
def rgSt (I:Addr) (a:Int) (n:Nat) (j:Nat) (h:Heap):Prop:=h.get? I=some (krsIt (a+j) ((n:Int) - j) 1)
theorem rg_source {x:Str} {px:Pos} {I:Addr} {a:Int} {n:Nat} (hh:A.handled=none):yJt prog w A (.Name x px) I [] n (fun j v=>∃ t,v=.int (a+j) t) (rgSt I a n) where
 turn:=fun s j Q E hj g1 k=>by
  refine wpAny_pyNext_range_item g1 (Int.sub_pos_of_lt (Int.ofNat_lt.2 hj)) fun h' it k'=>k _ _ _ ⟨_,rfl⟩ ?_ k'
  unfold rgSt
  rw [show (a+((j+1:Nat):Int))=a+j+1 from (Int.add_assoc a j 1).symm,show ((n:Int) - ((j+1:Nat):Int))=(n:Int) - j - 1 from (Int.sub_sub n j 1).symm]
  exact it
 done:=fun s Q E g1 k=>wpAny_pyNext_range_end hh g1 (Int.le_of_eq (Int.sub_self _)) fun h' b=>k _ _ b
 iter:=fun s j Q E g1 k=>wpAny_pyIter_rangeiter g1 k
 own:=fun s j v Q E _ _ k=>qI k
 alive:=fun j h g1 a ha=>by have:=qC.mp ha;subst this;exact ⟨_,g1⟩
 frame:=fun j h h' g1 k=>k _ _ (.head _) g1
def yJs (prog:Program) (w:World) (A:Around) (env:Env) (tgt:Expr) (scope:Scope) (cl:List (Str×Addr)) (n:Nat) (V:Nat->Value->Prop) (Nm:Nat->(Str->Option Value)->Prop) (G:Addr->Heap->Prop):Prop:=
 ∀j v (s':Shared) C ma2 (Q:Unit->Shared->Prop) E',j < n->V j v->s'.heap.Ns C ma2->G C s'.heap->(∀ h' tk' ma3,h'.Ns C ma3->Nm j ma3->Heap.ExtBut C s'.heap h'->Q () { s' with heap:=h',toks:=tk' })->wpAny (model prog w) A (assign tgt (compEnvC scope cl C env) v) Q E' s'
def yXc (prog:Program) (w:World) (A:Around) (env:Env) (ifs:List Expr) (scope:Scope) (cl:List (Str×Addr)) (n:Nat) (Nm:Nat->(Str->Option Value)->Prop) (G:Addr->Heap->Prop) (s:Shared) (p:Nat->Bool):Prop:=
 ∀j h ma3 tk E' C,j < n->h.Ns C ma3->Nm j ma3->G C h->wpAny (model prog w) A (forIn ifs true fun c r=>if r=true then do let ok <- isTrue c (compEnvC scope cl C env) (eval c (compEnvC scope cl C env));pure (ForInStep.yield ok) else pure (ForInStep.yield r)) (fun ok s'=>ok=p j/\∃ h',∃ tk',s'={s with heap:=h',toks:=tk'}/\h.StaysIn h') E' {s with heap:=h,toks:=tk}
def yZN (s:Shared) (h:Heap) (Y:Value->List (Addr×Obj)->Prop) (y:Value) (s':Shared):Prop:=X3 fun h' tk' nw=>A4 (s'={s with heap:=h',toks:=tk'}) (h.StaysIn h') (Y y nw) (∀ q∈nw,h'.get? q.1=some q.2/\h.get? q.1=none)
def yCp (prog:Program) (w:World) (A:Around) (env:Env) (elt:Expr) (scope:Scope) (cl:List (Str×Addr)) (n:Nat) (Nm:Nat->(Str->Option Value)->Prop) (G:Addr->Heap->Prop) (s:Shared) (p:Nat->Bool) (YP:Nat->Value->List (Addr×Obj)->Prop):Prop:=
 ∀j h ma3 tk E' C,j < n->p j=true->h.Ns C ma3->Nm j ma3->G C h->wpAny (model prog w) A (eval elt (compEnvC scope cl C env)) (yZN s h (YP j)) E' {s with heap:=h,toks:=tk}
def Row (p:Nat->Bool) (n:Nat) (YP:Nat->Value->List (Addr×Obj)->Prop) (rs:List (Value×List (Addr×Obj))):Prop:=rs.length=((List.range n).filter p).length/\∀ i r,rs[i]?=some r->YP (((List.range n).filter p).getD i 0) r.1 r.2
theorem yAg {elt iter tgt:Expr} {ifs:List Expr} {scope:Scope} {cl:List (Str×Addr)} {pos:Pos} {R:Result->Shared->Prop} {C D I:Addr} {deps:List Addr} {n:Nat} {V:Nat->Value->Prop} {St:Nat->Heap->Prop} {Nm:Nat->(Str->Option Value)->Prop}
  (S:yJt prog w A tgt I deps n V St) (p:Nat->Bool) (YP:Nat->Value->List (Addr×Obj)->Prop) {ma0:Str->Option Value} {ca0:Nat}
  (hDC:D≠C) (offC:C ∉ I::deps) (offD:D ∉ I::deps) (hn:n<=1000)
  (hasg:yJs prog w A env tgt scope cl n V Nm fun C' h=>C'=C/\yQN [I] C D s.heap h) (htest:yXc prog w A env ifs scope cl n Nm (fun C' h=>C'=C/\yQN [I] C D s.heap h) s p) (helt:yCp prog w A env elt scope cl n Nm (fun C' h=>C'=C/\yQN [I] C D s.heap h) s p YP)
  (hst:St 0 s.heap) (hC:s.heap.Ns C ma0) (hD:s.heap.get? D=some (listOf #[] ca0))
  (hR:∀ h' tk' ma2 (rs:List (Value×List (Addr×Obj))) c,Row p n YP rs->
   (∀ r∈rs,∀ q∈r.2,h'.get? q.1=some q.2/\s.heap.get? q.1=none)->h'.Ns C ma2->h'.get? D=some (listOf (rs.map (·.1)).toArray c)->yQN [I] C D s.heap h'->R (.ok .next) {s with heap:=h',toks:=tk'}):
  codeAny (model prog w) A (.compLoop (.ListComp elt [⟨tgt,iter,ifs,0⟩] scope pos) 0 (.ref I) (.ref D) (compEnvC scope cl C env)) R s:=by
 have CI:C≠I:=fun q=>offC (q ▸ .head _)
 have DI:D≠I:=fun q=>offD (q ▸ .head _)
 refine yQY (p:=p) (n:=n) (St:=St) (wr:=[I]) (Nm:=Nm) (YP:=YP) (Dn:=fun O=>True)
  hDC (by simpa using DI) (by simpa using CI) hn (fun j h st a ha=>S.alive j h st _ (by rw [qC.mp ha];exact .head _)) (fun j h h' st k=>S.frame j h h' st fun c o hc e=>k c o (fun q=>offC (q ▸ hc)) (fun q=>offD (q ▸ hc)) e) ?_ ?_ ?_ ?_ hst hC hD ?_
 ·intro j h ma2 tk E' hj st hC' hK
  refine S.turn _ j _ _ hj st fun v ha2 tka2 hv sta2 s2=>⟨v,rfl,?_⟩
  refine S.own _ j v _ _ hv sta2 ?_
  have n2:ha2.Ns C ma2:=ns_at hC' fun o e=>s2.extBut _ o CI e
  have k2:yQN [I] C D s.heap ha2:=fun c o a b d e=>s2.extBut _ _ (fun q=>a (by rw [q];exact .head _)) (hK c o a b d e)
  refine hasg j v _ C ma2 _ _ hj hv n2 ⟨rfl,k2⟩ fun hd3 tka3 ma3 n3 nm s3=>⟨hd3,tka3,_,rfl,?_,n3,nm,?_⟩
  ·exact S.frame _ _ _ sta2 fun c o hc e=>s3 c o (fun q=>offC (q ▸ hc)) e
  ·intro c o hw hc e
   exact s3 _ _ hc (s2.extBut _ _ (fun q=>hw (by rw [q];exact .head _)) e)
 ·exact fun j h ma3 tk E' hj st hC' nm hK=>htest j h ma3 tk E' C hj hC' nm ⟨rfl,hK⟩
 ·exact fun j h ma3 tk E' hj hp st hC' nm hK=>helt j h ma3 tk E' C hj hp hC' nm ⟨rfl,hK⟩
 ·exact fun h tk Q E' st hK k=>S.done _ _ _ st fun h' tk' b=>k h' tk' trivial fun c o hw e=>b c o (fun q=>hw (by rw [q];exact .head _)) e
 ·exact fun h' tk' ma2 rs c q1 q2 q3 q4 q5 _ q7=>hR h' tk' ma2 rs c ⟨q1,q2⟩ q3 q4 q5 q7
def Led (B:Heap) (news:List (Addr×Obj)) (_:Addr) (h:Heap):Prop:=B.StaysIn h/\∀ q∈news,h.get? q.1=some q.2
def yZK (B:Heap) (L:Addr) (m:Str->Option Value) (news:List (Addr×Obj)) (D C:Addr) (rs:List (Value×List (Addr×Obj))) (h7:Heap):Prop:=
 h7.Ns L m/\C≠L/\D≠C/\B.get? C=none/\B.StaysIn h7/\(∃ c,News B L h7 ((D,listOf (rs.map (·.1)).toArray c)::(rs.flatMap (·.2)++news)))/\(∀ q∈rs.flatMap (·.2)++news,q.1≠C/\q.1≠D)/\∀ q∈rs.flatMap (·.2),∀ r∈news,q.1≠r.1
theorem yYt {elt iter tgt:Expr} {ifs:List Expr} {scope:Scope} {cl:List (Str×Addr)} {pos:Pos} {RR:Value->Addr->Result->Shared->Prop} {I L:Addr} {deps:List Addr} {n:Nat} {V:Nat->Value->Prop} {St:Nat->Heap->Prop} {Nm:Nat->(Str->Option Value)->Prop} {B h5:Heap} {tk5:Nat} {m:Str->Option Value} {news:List (Addr×Obj)}
  (S:yJt prog w A tgt I deps n V St) (p:Nat->Bool) (YP:Nat->Value->List (Addr×Obj)->Prop) (hn:n<=1000)
  (F:Fr B L h5 m) (N:News B L h5 news) (hIL:I≠L) (hIB:B.get? I=none) (hIN:∀ q∈news,q.1≠I) (hst:St 0 h5)
  (hasg:yJs prog w A env tgt scope cl n V Nm (Led B news)) (htest:yXc prog w A env ifs scope cl n Nm (Led B news) s p) (helt:yCp prog w A env elt scope cl n Nm (Led B news) s p YP)
  (k:∀ C D h7 tk7 ma2 (rs:List (Value×List (Addr×Obj))),Row p n YP rs->h7.Ns C ma2->yZK B L m news D C rs h7->RR (.ref D) C (.ok .next) {s with heap:=h7,toks:=tk7}):
  yXz prog w A env elt tgt iter ifs scope cl pos RR (.ref I) {s with heap:=h5,toks:=tk5}:=by
 intro C D h6 tk6 st6 nC nD nDC hC hD
 dsimp only at st6 nC nD hC hD ⊢
 have ne5:∀ {a b:Addr} {o:Obj},h5.get? a=some o->h5.get? b=none->a≠b:=fun q1 q2 r=>by rw [r,q2] at q1;cases q1
 have off:∀ Y,h5.get? Y=none->Y ∉ I::deps:=fun Y q r=>by
  obtain ⟨o,ho⟩:=S.alive 0 h5 hst Y r
  rw [q] at ho;cases ho
 have st6':St 0 h6:=S.frame _ _ _ hst fun c o _ e=>st6 c o e
 refine ⟨fun Q E q=>S.iter _ 0 _ _ st6' q,?_⟩
 have keep:∀ {h a o},yQN [I] C D h6 h->h5.get? a=some o->a≠I->h.get? a=some o:=fun kp q ne=>
  kp _ _ (fun r=>ne (qC.mp r)) (ne5 q nC) (ne5 q nD) (st6 _ _ q)
 have keepL:∀ {C' h},(C'=C/\yQN [I] C D h6 h)->Led B news C' h:=fun kp=>⟨fun a o q=>keep kp.2 (F.keep _ _ q) fun r=>(by rw [r,hIB] at q;cases q),fun q hq=>keep kp.2 (N q hq).1 (hIN q hq)⟩
 refine yAg (s:={s with heap:=h6,toks:=tk6}) S p YP nDC (off _ nC) (off _ nD) hn (fun j v s' C' ma2 Q E' a1 a2 a3 a4 a5=>hasg j v s' C' ma2 Q E' a1 a2 a3 (keepL a4) a5) (fun j h ma3 tk E' C' a1 a2 a3 a4=>htest j h ma3 tk E' C' a1 a2 a3 (keepL a4)) (fun j h ma3 tk E' C' a1 a2 a3 a4 a5=>helt j h ma3 tk E' C' a1 a2 a3 a4 (keepL a5)) st6' hC hD ?_
 intro h7 tk7 ma2 rs c q1 q3 q4 q5 q7
 obtain ⟨oL,gL⟩:=yQk F.ns
 have L7:h7.Ns L m:=ns_at F.ns fun o q=>keep q7 q (vF hIL)
 have LC:C≠L:=vF (ne5 gL nC)
 have LD:D≠L:=vF (ne5 gL nD)
 have n5B:∀ {a},h5.get? a=none->B.get? a=none:=none_sub F.keep
 have kL:=keepL ⟨rfl,q7⟩
 refine k C D h7 tk7 ma2 rs q1 q4 ⟨L7,LC,nDC,n5B nC,kL.1,⟨c,?_⟩,?_,fun q hq r' hr' e=>?_⟩
 ·intro q hq
  rcases qG.mp hq with rfl | hq
  ·exact ⟨q5,LD,n5B nD⟩
  rcases qF.mp hq with hq | hq
  ·obtain ⟨r,hr,hq⟩:=mem_flatMap.mp hq
   have z:=q3 r hr q hq
   exact ⟨z.1,fun r=>by have z2:=z.2;rw [r] at z2;exact absurd (st6 _ _ gL) (by rw [show h6.get? L=none from z2];intro q;cases q),none_sub (fun a o q=>st6 _ _ (F.keep _ _ q)) z.2⟩
  ·exact ⟨kL.2 q hq,(N q hq).2⟩
 ·intro q hq
  rcases qF.mp hq with hq | hq
  ·obtain ⟨r,hr,hq⟩:=mem_flatMap.mp hq
   have z:=(q3 r hr q hq).2
   dsimp only at z
   exact ⟨fun r=>(by obtain ⟨o,ho⟩:=yQk hC;rw [r,ho] at z;cases z),fun r=>by rw [r,hD] at z;cases z⟩
  ·exact ⟨ne5 (N q hq).1 nC,ne5 (N q hq).1 nD⟩
 ·obtain ⟨r,hr,hq⟩:=mem_flatMap.mp hq
  have z:=(q3 r hr q hq).2
  dsimp only at z
  rw [e,st6 _ _ (N r' hr').1] at z;cases z
def yJC (B:Heap) (L:Addr) (m:Str->Option Value) (news:List (Addr×Obj)) (prog:Program) (w:World) (A:Around) (tgt:Expr) (n:Nat) (V:Nat->Value->Prop) (s:Shared) (it:Value) (sa2:Shared):Prop:=
 X5 fun I h5 tk5 deps St=>A9 (it=.ref I) (sa2={s with heap:=h5,toks:=tk5}) (Fr B L h5 m) (News B L h5 news) (I≠L) (B.get? I=none) ((∀ q∈news,q.1≠I)) (yJt prog w A tgt I deps n V St) (St 0 h5)
def yCc (prog:Program) (w:World) (A:Around) (env:Env) (iter tgt:Expr) (B:Heap) (L:Addr) (m:Str->Option Value) (news:List (Addr×Obj)) (n:Nat) (V:Nat->Value->Prop) (E:VS) (s:Shared):Prop:=
 wpAny (model prog w) A (eval iter env) (fun xv sa1=>wpAny (model prog w) A (pyIter xv) (yJC B L m news prog w A tgt n V s) E sa1) E s
def yJR (B:Heap) (L:Addr) (m:Str->Option Value) (news:List (Addr×Obj)) (D:Addr) (rs:List (Value×List (Addr×Obj))) (h8:Heap):Prop:=
 Fr B L h8 m/\(∃ c,News B L h8 ((D,listOf (rs.map (·.1)).toArray c)::(rs.flatMap (·.2)++news)))/\(∀ q∈rs.flatMap (·.2)++news,q.1≠D)/\∀ q∈rs.flatMap (·.2),∀ r∈news,q.1≠r.1
theorem yZK.made {B:Heap} {L:Addr} {m m':Str->Option Value} {news:List (Addr×Obj)} {D C:Addr} {rs:List (Value×List (Addr×Obj))} {h7 h8:Heap} (x:yZK B L m news D C rs h7) (hBL:B.objs.size<=L) (n8:h8.Ns L m') (k8:∀ a o,a≠L->a≠C->h7.get? a=some o->h8.get? a=some o):yJR B L m' news D rs h8:=by
 obtain ⟨q4,q5,q6,q7,q8,⟨c,q9⟩,q10,q11⟩:=x
 refine ⟨⟨n8,fun a o q=>k8 _ _ (fun r=>?_) (fun r=>?_) (q8 _ _ q),hBL⟩,⟨c,fun q hq=>?_⟩,fun q hq=>(q10 q hq).2,q11⟩
 ·rw [r] at q;exact absurd (qU q) (vX.mpr hBL)
 ·rw [r,q7] at q;cases q
 ·have z:=q9 q hq
  refine ⟨k8 _ _ z.2.1 (fun r=>?_) z.1,z.2⟩
  rcases qG.mp hq with rfl | hq
  ·exact q6 r
  ·exact (q10 q hq).1 r
theorem yVo {elt iter tgt:Expr} {ifs:List Expr} {scope:Scope} {cl:List (Str×Addr)} {y:Str} {pos spos py:Pos} {L:Addr} {n:Nat} {V:Nat->Value->Prop} {Nm:Nat->(Str->Option Value)->Prop} {B:Heap} {m:Str->Option Value} {news:List (Addr×Obj)} {Q:Flow->Shared->Prop}
  (p:Nat->Bool) (YP:Nat->Value->List (Addr×Obj)->Prop) (hloc:env.locals=L)
  (hsw:swapsWith (.ListComp elt [⟨tgt,iter,ifs,0⟩] scope pos) (some (.Name y py)) spos.line env=pure true)
  (hclos:closureFor scope env=pure cl) (hcell:∀ z∈scope.names,z.2≠.cell) (hnames:∀ z∈scope.names,z.2=.local->scope.names.lookup z.1=some .local)
  (hy:env.kindOf y=some .local) (hp:(env.scope.kind == .class || (env.scope.kind == .module && env.locals != env.globals))=false) (hs:∀ x,foldedSetIterable iter env x=pure x)
  (hn:n<=1000) (hkind:scope.kind=.function)
  (hmade:yCc prog w A env iter tgt B L m news n V E s)
  (hasg:yJs prog w A env tgt scope cl n V Nm (Led B news)) (htest:yXc prog w A env ifs scope cl n Nm (Led B news) s p) (helt:yCp prog w A env elt scope cl n Nm (Led B news) s p YP)
  (k:∀ D h8 tk8 (rs:List (Value×List (Addr×Obj))),Row p n YP rs->yJR B L (fun z=>if z=y then some (.ref D) else m z) news D rs h8->Q .next {s with heap:=h8,toks:=tk8}):
  wpAny (model prog w) A (exec (.Assign [.Name y py] (.ListComp elt [⟨tgt,iter,ifs,0⟩] scope pos) spos) env) Q E s:=by
 subst hloc
 refine yVc hsw hclos hcell hkind hnames hy hp (qL hmade (fun xv sa1 hz=>qL hz (fun it sa2 hz=>?_) fun _ _ e=>e) fun _ _ e=>e) hs
 obtain ⟨I,h5,tk5,deps,St,rfl,rfl,F,N,hIL,hIB,hIN,S,hst⟩:=hz
 exact yYt S p YP hn F N hIL hIB hIN hst hasg htest helt fun C D h7 tk7 ma2 rs q1 q3 q4=>⟨rfl,ma2,m,q3,q4.1,q4.2.1,fun h8 tk8 n8 k8=>k D h8 tk8 rs q1 (q4.made F.above n8 k8)⟩
theorem src_list {elt iter tgt:Expr} {ifs:List Expr} {scope:Scope} {cl:List (Str×Addr)} {pos:Pos} {L:Addr} {n:Nat} {V:Nat->Value->Prop} {Nm:Nat->(Str->Option Value)->Prop} {B:Heap} {m:Str->Option Value} {news:List (Addr×Obj)} {Q:VS}
  (p:Nat->Bool) (YP:Nat->Value->List (Addr×Obj)->Prop)
  (hclos:closureFor scope env=pure cl) (hcell:∀ z∈scope.names,z.2≠.cell) (hnames:∀ z∈scope.names,z.2=.local->scope.names.lookup z.1=some .local)
  (hs:∀ x,foldedSetIterable iter env x=pure x) (hn:n<=1000) (hkind:scope.kind=.function)
  (hmade:yCc prog w A env iter tgt B L m news n V E s)
  (hasg:yJs prog w A env tgt scope cl n V Nm (Led B news)) (htest:yXc prog w A env ifs scope cl n Nm (Led B news) s p) (helt:yCp prog w A env elt scope cl n Nm (Led B news) s p YP)
  (k:∀ D h8 tk8 (rs:List (Value×List (Addr×Obj))),Row p n YP rs->yJR B L m news D rs h8->Q (.ref D) {s with heap:=h8,toks:=tk8}):
  wpAny (model prog w) A (eval (.ListComp elt [⟨tgt,iter,ifs,0⟩] scope pos) env) Q E s:=by
 refine yJZ hclos hcell hkind hnames (qL hmade (fun xv sa1 hz=>qL hz (fun it sa2 hz=>?_) fun _ _ e=>e) fun _ _ e=>e) hs
 obtain ⟨I,h5,tk5,deps,St,rfl,rfl,F,N,hIL,hIB,hIN,S,hst⟩:=hz
 exact yYt S p YP hn F N hIL hIB hIN hst hasg htest helt fun C D h7 tk7 ma2 rs q1 q3 q4=>⟨rfl,ma2,q3,fun h8 s8=>k D h8 tk7 rs q1 (q4.made F.above (ns_at q4.1 fun o e=>s8.extBut _ o (vF q4.2.1) e) fun a o _ r e=>s8.extBut _ _ r e)⟩
theorem made_list {tgt:Expr} {L R:Addr} {n c0:Nat} {e:Nat->Value} {B:Heap} {m:Str->Option Value} {news:List (Addr×Obj)} {h:Heap} {tk:Nat} (hh:A.handled=none) (ht:yCW tgt e) (F:Fr B L h m) (N:News B L h news) (hl:h.get? R=some (listOf ((List.range n).map e).toArray c0)):
  wpAny (model prog w) A (pyIter (.ref R)) (yJC B L m news prog w A tgt n (fun j v=>v=e j) s) E {s with heap:=h,toks:=tk}:=
 wpAny_pyIter_list (qW hl) ⟨_,_,tk,_,liSt h.objs.size R e n c0,rfl,rfl,F.push (liObj R 0),fun q hq=>(show News B L _ _ from N.push F (liObj R 0)) q (.tail _ hq),ne_of_gt F.ns.lt,next_is_new F,fun q hq=>vB (qU (N q hq).1),yYW hh ht,qX _ rfl,qS _ hl⟩
theorem yQX {x:Str} {px:Pos} {L r:Addr} {n:Nat} {t u v:Tok} {B:Heap} {m:Str->Option Value} {news:List (Addr×Obj)} {h:Heap} {tk:Nat} (hh:A.handled=none) (F:Fr B L h m) (N:News B L h news) (hr:IsRange h r 0 n 1 t u v) (hn:n<=100000):
  wpAny (model prog w) A (pyIter (.ref r)) (yJC B L m news prog w A (.Name x px) n (fun j v=>∃ t,v=.int (0+j) t) s) E {s with heap:=h,toks:=tk}:=by
 have hrs:Builtin.Range.rangeSize 0 (n:Int) 1=(n:Int):=rangeSize_nat _ _
 refine wpAny_pyIter_range hr (by unfold Builtin.Range.small Builtin.Range.rangeFitsLong;rw [hrs];simp;exact yDt hn) ?_
 rw [hrs]
 refine ⟨_,_,tk,_,rgSt h.objs.size 0 n,rfl,rfl,F.push (krsIt 0 (n:Int) 1),fun q hq=>(show News B L _ _ from N.push F (krsIt 0 (n:Int) 1)) q (.tail _ hq),ne_of_gt F.ns.lt,next_is_new F,fun q hq=>vB (qU (N q hq).1),rg_source hh,?_⟩
 unfold rgSt
 simp only [Int.natCast_zero,Int.add_zero,Int.sub_zero]
 exact qX _ rfl
section
variable {K:Frag} {b:Heap}
theorem comp_B {scope:Scope} {cl:List (Str×Addr)} {C:Addr} {x:Str} {pos:Pos} {v:Value} {Q:VS} (st:b.StaysIn s.heap) (X:K.In b) (T:Top p loose yQv mg mb b) (e:nsIn K mainGlobals x=some none) (hv:bootBuiltins x=some v) (hn:x≠"__name__") (h:Q v s)
  (hk:scope.kind=.function) (hx:(compEnvC scope cl C env).kindOf x=some .globalImplicit) (hg:env.globals=mainGlobals) (hb:env.builtins=builtinsNs) (hd:(x == ("__debug__":Str))=false):
  wpAny (model prog w) A (eval (.Name x pos) (compEnvC scope cl C env)) Q E s:=
 Name_function_global (env:=compEnvC scope cl C env) hk hx (loadGlobal_builtin (env:=compEnvC scope cl C env) (by show s.heap.Ns env.globals mg;rw [hg];exact T.g.keeps st) (mg_none_of X T.g e) (by show s.heap.Ns env.builtins mb;rw [hb];exact T.b.keeps st) ((T.builtins x hn).trans hv) h) hd
theorem comp_K {scope:Scope} {cl:List (Str×Addr)} {C:Addr} {x:Str} {pos:Pos} {v:Value} {Q:VS} (st:b.StaysIn s.heap) (X:K.In b) (T:Top p loose yQv mg mb b) (e:nsIn K mainGlobals x=some (some v)) (h:Q v s)
  (hk:scope.kind=.function) (hx:(compEnvC scope cl C env).kindOf x=some .globalImplicit) (hg:env.globals=mainGlobals) (hd:(x == ("__debug__":Str))=false):
  wpAny (model prog w) A (eval (.Name x pos) (compEnvC scope cl C env)) Q E s:=
 Name_function_global (env:=compEnvC scope cl C env) hk hx (loadGlobal_global (env:=compEnvC scope cl C env) (by show s.heap.Ns env.globals mg;rw [hg];exact T.g.keeps st) (mg_of X T.g e) h) hd
end
def NmV (x:Str) (V:Nat->Value->Prop) (j:Nat) (m:Str->Option Value):Prop:=∃ v,V j v/\m x=some v
theorem stores_name {x:Str} {px:Pos} {scope:Scope} {cl:List (Str×Addr)} {n:Nat} {V:Nat->Value->Prop} {G:Addr->Heap->Prop} (hkind:scope.kind=.function) (hx:scope.names.lookup x=some .local):yJs prog w A env (.Name x px) scope cl n V (NmV x V) G:=
 fun j v s' C ma2 Q E' _ hv hn _ k=>store_c hkind hx hn fun h' tk' n3 s3=>k h' tk' _ n3 ⟨v,hv,qN rfl⟩ s3.extBut
def NmP (x0 x1:Str) (a b:Nat->Value) (j:Nat) (m:Str->Option Value):Prop:=m x0=some (a j)/\m x1=some (b j)
theorem yQo {scope:Scope} {cl:List (Str×Addr)} {n:Nat} {Nm:Nat->(Str->Option Value)->Prop} {G:Addr->Heap->Prop}:yXc prog w A env [] scope cl n Nm G s fun O=>true:=
 fun j h ma3 tk E' C _ _ _ _=>wpAny_tests_nil ⟨rfl,_,_,rfl,fun _ _ e=>e⟩
theorem yZN.of {s s':Shared} {h h':Heap} {tk':Nat} {Y:Value->List (Addr×Obj)->Prop} {y:Value} (hs:s'={s with heap:=h',toks:=tk'}) (st:h.StaysIn h') (hy:Y y []):yZN s h Y y s':=⟨h',tk',[],hs,st,hy,fun q hq=>nomatch hq⟩
theorem Row.plain {p:Nat->Bool} {n:Nat} {YP:Nat->Value->List (Addr×Obj)->Prop} {rs:List (Value×List (Addr×Obj))} {f:Nat->Value->Prop} (r:Row p n YP rs) (h:∀ j y nw,YP j y nw->f j y/\nw=[]):
  rs.flatMap (·.2)=[]/\(rs.map (·.1)).length=((List.range n).filter p).length/\∀ i y,(rs.map (·.1))[i]?=some y->f (((List.range n).filter p).getD i 0) y:=by
 refine ⟨List.flatMap_eq_nil_iff.mpr fun q hq=>?_,by rw [length_map];exact r.1,fun i y hy=>?_⟩
 ·obtain ⟨i,hi,e⟩:=getElem_of_mem hq
  exact (h _ _ _ (r.2 i q (by rw [qT hi,e]))).2
 ·rw [List.getElem?_map] at hy
  obtain ⟨q,h1,h2⟩:=Option.map_eq_some_iff.mp hy
  rw [<- h2]
  exact (h _ _ _ (r.2 i q h1)).1
end
section
variable {A:Around} {s:Shared} {E:VS} {env:Env}
def yVf (B:Heap) (L I:Addr) (IO:Nat->Obj->Prop) (s:Shared) (J:Nat->(Str->Option Value)->List (Addr×Obj)->Prop) (j:Nat) (sa3:Shared):Prop:=
 X5 fun h' tk' m' news' o=>A6 (sa3={s with heap:=h',toks:=tk'}) (J j m' news') (Fr B L h' m') (News B L h' ((I,o)::news')) (IO j o) (∀ q∈news',q.1≠I)
def yVL (Q:Flow->Shared->Prop) (T:Shared->Prop) (f:Flow) (sa3:Shared):Prop:=match f with
 | .next | .cont=>T sa3
 | .brk=>Q .next sa3
 | .ret v=>Q (.ret v) sa3
end
namespace K_for_src
def zP (A:Around) (s:Shared) (E:VS) (env:Env) (tgt:Expr) (Q:Flow->Shared->Prop) (B:Heap) (L I:Addr) (deps:List Addr) (n:Nat) (s0:Shared):Prop:=∀ (body:List Stmt) (orelse:List Stmt) (V:Nat->Value->Prop) (St:Nat->Heap->Prop) (IO:Nat->Obj->Prop) (J:Nat->(Str->Option Value)->List (Addr×Obj)->Prop) (S:yJt prog w A tgt I deps n V St) (hIL:I≠L) (hIB:B.get? I=none) (hts:∀ j h,St j h->∃ o,h.get? I=some o/\IO j o) (hst:∀ j h o m news,J j m news->B.StaysIn h->(∀ q∈news,h.get? q.1=some q.2)->h.get? I=some o->IO j o->St j h) (h0:yVf B L I IO s J 0 s0) (turn:∀ j h tk m news v o,j < n->V j v->J j m news->Fr B L h m->News B L h ((I,o)::news)->IO (j+1) o->(∀ q∈news,q.1≠I)->wpAny (model prog w) A (assign tgt env v) (fun _ sa2=>wpAny (model prog w) A (execs body env) (yVL Q (yVf B L I IO s J (j+1)))
   (notedBy (model prog w) A env (cameBackBy (model prog w) A env E)) sa2) (notedBy (model prog w) A env (cameBackBy (model prog w) A env E)) {s with heap:=h,toks:=tk}) (fin:∀ h tk m news,J n m news->Fr B L h m->News B L h news->wpAny (model prog w) A (execs orelse env) Q (notedBy (model prog w) A env (cameBackBy (model prog w) A env E)) {s with heap:=h,toks:=tk}),
  codeAny (model prog w) A (.forLoop tgt (.ref I) body orelse env) (fun r s'=>match r with | .ok f=>Q f s' | .error e=>cameBackBy (model prog w) A env E e s') s0
def zc:=ep (U12 zP) ⟨({},(start default).1,fun O O=>True,default,default,fun O O=>True,default,0,0,[],0,(start default).1)⟩
def zd1:=zc.2.2.2.2.2.2.2.2
def A:=zc.1
def s:=zc.2.1
def B:=zc.2.2.2.2.2.2.1
def L:=zc.2.2.2.2.2.2.2.1
def I:=zd1.1
def n:=zd1.2.2.1
theorem zh:zP A s zc.2.2.1 zc.2.2.2.1 zc.2.2.2.2.1 zc.2.2.2.2.2.1 B L I zd1.2.1 n zd1.2.2.2:=by
 intro body orelse V St IO J S hIL hIB hts hst h0 turn fin
 refine codeAny_forLoop_any (fun k s'=>∃ j,A3 (j<=n) (k=n - j) (yVf B L I IO s J j s')) ?_ n ⟨0,vZ _,rfl,h0⟩
 rintro k s' ⟨j,hj,rfl,h,tk,m,news,o,rfl,hJ,F,N,ho,off⟩
 have hI:=N _ (.head _)
 have hs:=hst j h o m news hJ F.keep (fun q hq=>(N q (.tail _ hq)).1) hI.1 ho
 by_cases hlt:j < n
 ·refine S.turn _ j _ _ hlt hs fun v ha2 tka2 hv sta2 s2=>?_
  obtain ⟨o2,g2,ho2⟩:=hts _ _ sta2
  refine S.own _ j v _ _ hv sta2 ?_
  refine qL (turn j ha2 tka2 m news v o2 hlt hv hJ (fr_ext F (vF hIL) hIB s2.extBut) (fun q hq=>?_) ho2 off) (fun _ sa2 h2=>qL h2 (fun f sa3 h3=>?_) fun _ _ e=>e) fun _ _ e=>e
  ·rcases qG.mp hq with rfl | hq
   ·exact ⟨g2,hI.2⟩
   ·exact ⟨s2.extBut _ _ (off q hq) (N q (.tail _ hq)).1,(N q (.tail _ hq)).2⟩
  ·cases f with
   | next=>exact ⟨n - (j+1),(jl3 [_,_,_,_] 0xf2aab31fa302f10 na (nc (jg2 [_,_] 0xf0ab1fab1ab0 hlt))),j+1,hlt,rfl,h3⟩
   | cont=>exact ⟨n - (j+1),(jl3 [_,_,_,_] 0xf2aab31fa302f10 na (nc (jg2 [_,_] 0xf0ab1fab1ab0 hlt))),j+1,hlt,rfl,h3⟩
   | brk=>exact h3
   | ret v=>exact h3
 ·obtain rfl:j=n:=qH hj (vX.mp hlt)
  refine S.done _ _ _ hs fun h' tk' b=>?_
  exact fin h' tk' m news hJ (fr_ext F (vF hIL) hIB b) fun q hq=>⟨b _ _ (off q hq) (N q (.tail _ hq)).1,(N q (.tail _ hq)).2⟩
end K_for_src
section
variable {A:Around} {s:Shared} {E:VS} {env:Env}
theorem yZh {tgt:Expr} {body orelse:List Stmt} {Q:Flow->Shared->Prop} {B:Heap} {L I:Addr} {deps:List Addr} {n:Nat} {V:Nat->Value->Prop} {St:Nat->Heap->Prop} {IO:Nat->Obj->Prop} {J:Nat->(Str->Option Value)->List (Addr×Obj)->Prop} {s0:Shared}
  (S:yJt prog w A tgt I deps n V St) (hIL:I≠L) (hIB:B.get? I=none) (hts:∀ j h,St j h->∃ o,h.get? I=some o/\IO j o) (hst:∀ j h o m news,J j m news->B.StaysIn h->(∀ q∈news,h.get? q.1=some q.2)->h.get? I=some o->IO j o->St j h)
  (h0:yVf B L I IO s J 0 s0)
  (turn:∀ j h tk m news v o,j < n->V j v->J j m news->Fr B L h m->News B L h ((I,o)::news)->IO (j+1) o->(∀ q∈news,q.1≠I)->wpAny (model prog w) A (assign tgt env v) (fun _ sa2=>wpAny (model prog w) A (execs body env) (yVL Q (yVf B L I IO s J (j+1)))
   (notedBy (model prog w) A env (cameBackBy (model prog w) A env E)) sa2) (notedBy (model prog w) A env (cameBackBy (model prog w) A env E)) {s with heap:=h,toks:=tk})
  (fin:∀ h tk m news,J n m news->Fr B L h m->News B L h news->wpAny (model prog w) A (execs orelse env) Q (notedBy (model prog w) A env (cameBackBy (model prog w) A env E)) {s with heap:=h,toks:=tk}):
  codeAny (model prog w) A (.forLoop tgt (.ref I) body orelse env) (fun r s'=>match r with | .ok f=>Q f s' | .error e=>cameBackBy (model prog w) A env E e s') s0:=
 eps (P:=U12 K_for_src.zP) K_for_src.zh (A,s,E,env,tgt,Q,B,L,I,deps,n,s0) body orelse V St IO J S hIL hIB hts hst h0 turn fin
def rgIO (a:Int) (n j:Nat) (o:Obj):Prop:=o=krsIt (a+j) ((n:Int) - j) 1
def tuIO (R:Addr) (j:Nat) (o:Obj):Prop:=o.cls=.type "tuple_iterator"/\o.data=.fields #[.ref R,.int j 0]
theorem yWo {x:Str} {px:Pos} {body orelse:List Stmt} {Q:Flow->Shared->Prop} {B:Heap} {L r:Addr} {n:Nat} {t u v:Tok} {J:Nat->(Str->Option Value)->List (Addr×Obj)->Prop} {h0:Heap} {tk0:Nat} {m0:Str->Option Value} {news0:List (Addr×Obj)}
  (hh:A.handled=none) (F:Fr B L h0 m0) (N:News B L h0 news0) (hJ:J 0 m0 news0) (hr:IsRange h0 r 0 n 1 t u v) (hn:n<=100000)
  (turn:∀ I j h tk m news t o,j < n->J j m news->Fr B L h m->News B L h ((I,o)::news)->rgIO 0 n (j+1) o->(∀ q∈news,q.1≠I)->wpAny (model prog w) A (assign (.Name x px) env (.int j t)) (fun _ sa2=>wpAny (model prog w) A (execs body env) (yVL Q (yVf B L I (rgIO 0 n) s J (j+1)))
   (notedBy (model prog w) A env (cameBackBy (model prog w) A env E)) sa2) (notedBy (model prog w) A env (cameBackBy (model prog w) A env E)) {s with heap:=h,toks:=tk})
  (fin:∀ h tk m news,J n m news->Fr B L h m->News B L h news->wpAny (model prog w) A (execs orelse env) Q (notedBy (model prog w) A env (cameBackBy (model prog w) A env E)) {s with heap:=h,toks:=tk}):
  wpAny (model prog w) A (pyIter (.ref r)) (fun it sa1=>codeAny (model prog w) A (.forLoop (.Name x px) it body orelse env) (fun r s'=>match r with | .ok f=>Q f s' | .error e=>cameBackBy (model prog w) A env E e s') sa1) E {s with heap:=h0,toks:=tk0}:=by
 have hrs:Builtin.Range.rangeSize 0 (n:Int) 1=(n:Int):=rangeSize_nat _ _
 refine wpAny_pyIter_range hr (by unfold Builtin.Range.small Builtin.Range.rangeFitsLong;rw [hrs];simp;exact yDt hn) ?_
 rw [hrs]
 refine yZh (IO:=rgIO 0 n) (J:=J) (rg_source (a:=0) hh) (ne_of_gt F.ns.lt) (next_is_new F) (fun j h g=>⟨_,g,rfl⟩) (fun j h o _ _ _ _ _ g q=>by rw [q] at g;exact g) ⟨_,tk0,m0,news0,_,rfl,hJ,F.push (krsIt 0 (n:Int) 1),N.push F (krsIt 0 (n:Int) 1),?_,fun q hq=>vB (qU (N q hq).1)⟩ ?_ fin
 ·unfold rgIO;simp only [Int.natCast_zero,Int.add_zero,Int.sub_zero]
 ·rintro j h tk m news v o hj ⟨t,rfl⟩ hJ F N ho off
  rw [Int.zero_add]
  exact turn _ j h tk m news t o hj hJ F N ho off
def tuSt (I R:Addr) (items:Array Value) (j:Nat) (h:Heap):Prop:=IsTupIter h I R j/\IsTup h R items
theorem tu_source {tgt:Expr} {I R:Addr} {items:Array Value} (hh:A.handled=none) (hIR:R≠I) (hown:∀ (s:Shared) (j:Nat) v (Q:Unit->Shared->Prop) (E:VS),items[j]?=some v->IsTupIter s.heap I R (j+1)->Q () s->wpAny (model prog w) A (letOwnedTupleGo tgt (.ref I) v) Q E s):
  yJt prog w A tgt I [R] items.size (fun j v=>items[j]?=some v) (tuSt I R items) where
 turn:=fun s j Q E hj g k=>next_tuple_item g.1 g.2 (x:=items[j]) (Array.getElem?_eq_getElem hj) fun ha2 k1 s2=>k _ _ _ (Array.getElem?_eq_getElem hj) ⟨k1,g.2.extBut s2.extBut hIR⟩ s2
 done:=fun s Q E g k=>next_tuple_end hh g.1 g.2 (Array.getElem?_eq_none (vC _)) fun h' b=>k _ _ b
 iter:=fun s j Q E g k=>wpAny_pyIter_tupleiter g.1 k
 own:=fun s j v Q E hv g k=>hown s j v Q E hv g.1 k
 alive:=fun j h g a ha=>by
  obtain ⟨⟨o,g1,_⟩,o',g2,_⟩:=g
  simp only [qG,wG,or_false] at ha
  exact ha.elim (fun q=>⟨_,by rw [q];exact g1⟩) fun q=>⟨_,by rw [q];exact g2⟩
 frame:=fun j h h' g k=>by
  obtain ⟨⟨o,g1,r1⟩,o',g2,r2⟩:=g
  exact ⟨⟨o,k _ _ (.head _) g1,r1⟩,o',k _ _ (.tail _ (.head _)) g2,r2⟩
theorem yWn {tgt:Expr} {body orelse:List Stmt} {Q:Flow->Shared->Prop} {B:Heap} {L R:Addr} {items:Array Value} {oR:Obj} {J:Nat->(Str->Option Value)->List (Addr×Obj)->Prop} {h0:Heap} {tk0:Nat} {m0:Str->Option Value} {news0:List (Addr×Obj)} {nR:Nat}
  (hh:A.handled=none) (F:Fr B L h0 m0) (N:News B L h0 news0) (hJ:J 0 m0 news0) (hoR:oR.cls=.type "tuple"/\oR.data=.seq items nR) (hR:∀ j m news,J j m news->(R,oR)∈news)
  (hown:∀ (I:Addr) (s:Shared) (j:Nat) v (Q:Unit->Shared->Prop) (E:VS),items[j]?=some v->IsTupIter s.heap I R (j+1)->Q () s->wpAny (model prog w) A (letOwnedTupleGo tgt (.ref I) v) Q E s)
  (turn:∀ I j h tk m news v o,items[j]?=some v->J j m news->Fr B L h m->News B L h ((I,o)::news)->tuIO R (j+1) o->(∀ q∈news,q.1≠I)->wpAny (model prog w) A (assign tgt env v) (fun _ sa2=>wpAny (model prog w) A (execs body env) (yVL Q (yVf B L I (tuIO R) s J (j+1)))
   (notedBy (model prog w) A env (cameBackBy (model prog w) A env E)) sa2) (notedBy (model prog w) A env (cameBackBy (model prog w) A env E)) {s with heap:=h,toks:=tk})
  (fin:∀ h tk m news,J items.size m news->Fr B L h m->News B L h news->wpAny (model prog w) A (execs orelse env) Q (notedBy (model prog w) A env (cameBackBy (model prog w) A env E)) {s with heap:=h,toks:=tk}):
  wpAny (model prog w) A (pyIter (.ref R)) (fun it sa1=>codeAny (model prog w) A (.forLoop tgt it body orelse env) (fun r s'=>match r with | .ok f=>Q f s' | .error e=>cameBackBy (model prog w) A env E e s') sa1) E {s with heap:=h0,toks:=tk0}:=by
 have gR:=(N _ (hR _ _ _ hJ)).1
 have tR:∀ {h:Heap},h.get? R=some oR->IsTup h R items:=fun g=>⟨oR,g,hoR.1,nR,hoR.2⟩
 refine iter_tuple (tR gR) ?_
 refine yZh (IO:=tuIO R) (J:=J) (tu_source hh (vB (qU gR)) (hown _)) (ne_of_gt F.ns.lt) (next_is_new F) (fun j h g=>?_) (fun j h o m news hJ _ hn g q=>⟨⟨o,g,q.1,q.2⟩,tR (hn _ (hR _ _ _ hJ))⟩) ⟨_,tk0,m0,news0,_,rfl,hJ,F.push { cls:=.type "tuple_iterator",data:=.fields #[.ref R,.int 0 0] },N.push F { cls:=.type "tuple_iterator",data:=.fields #[.ref R,.int 0 0] },⟨rfl,rfl⟩,fun q hq=>vB (qU (N q hq).1)⟩ ?_ fin
 ·obtain ⟨⟨o,g1,g2,g3⟩,_⟩:=g
  exact ⟨o,g1,g2,g3⟩
 ·intro j h tk m news v o hj hv hJ F N ho off
  exact turn _ j h tk m news v o hv hJ F N ho off
theorem ints_of:∀ {l:List Value} {zs:List Int},l.length=zs.length->(∀ i v,l[i]?=some v->∃ t,v=Value.int (zs.getD i 0) t)->IntsAre l zs
 | [],[],_,_=>.nil
 | [],_::_,h,_=>nomatch h
 | _::_,[],h,_=>nomatch h
 | v::l,z::zs,h,k=>by
  obtain ⟨t,e⟩:=k 0 v rfl
  rw [e]
  exact .cons z t (ints_of (Nat.succ.inj h) fun i v hv=>k (i+1) v hv)
theorem yYP {l:List Nat} {n:Nat} {e:Nat->Value} (h:l.length=n):l.map e=(List.range n).map fun j=>e (l.getD j 0):=by
 refine ext_getElem (by simp [h]) fun i a b=>?_
 have hi:i < l.length:=by simpa using a
 simp [hi]
theorem yQt {n:Nat}:(List.range n).filter (fun O=>true)=List.range n:=filter_eq_self.mpr fun O O=>rfl
theorem ordD_getD {sc:Nat->Int} {N j:Nat} (hj:j < N):(ordD sc N).getD j 0 < N:=by
 have h:j < (ordD sc N).length:=by rw [ordD_len];exact hj
 rw [qR,qT h]
 exact ordD_mem.mp (wK h)
end
section
variable {A:Around} {s:Shared} {E:VS} {env:Env}
theorem stores_tup {x0 x1:Str} {p0 p1 tp:Pos} {kk} {scope:Scope} {cl:List (Str×Addr)} {n:Nat} {e a b:Nat->Value} {B:Heap} {news:List (Addr×Obj)} (hh:A.handled=none) (hkind:scope.kind=.function) (hx0:scope.names.lookup x0=some .local) (hx1:scope.names.lookup x1=some .local) (ne:x0≠x1)
  (he:∀ j,j < n->X2 fun T c=>e j=.ref T/\(T,{ cls:=.type "tuple",data:=.seq #[a j,b j] c })∈news):yJs prog w A env (.Tuple [.Name x0 p0,.Name x1 p1] kk tp) scope cl n (fun j v=>v=e j) (NmP x0 x1 a b) (Led B news):=by
 intro j v s' C ma2 Q E' hj hv hn hG k
 obtain ⟨T,c,q1,q2⟩:=he j hj
 rw [hv,q1]
 refine assign_Tuple_tuple hh ⟨_,hG.2 _ q2,rfl,_,rfl⟩ rfl rfl fun h' st=>?_
 have st':∀ a o,s'.heap.get? a=some o->h'.get? a=some o:=fun a o q=>st a o (vB (qU q)) q
 refine assignInOrder_cons (store_c hkind hx0 (ns_at hn fun o e=>st' _ _ e) fun ha6 tka6 n6 s6=>?_)
 refine assignInOrder_cons (store_c hkind hx1 n6 fun ha7 tka7 n7 s7=>?_)
 refine assignInOrder_nil ?_
 exact k ha7 tka7 _ n7 ⟨(qM ne).trans (qN rfl),qN rfl⟩ fun c o hc e=>s7.extBut c o hc (s6.extBut c o hc (st' _ _ e))
theorem yQf {value slice:PySem.Expr} {R:Addr} {items:Array Value} {c0:Nat} {k:Int} {v:Value} {u:Tok} {Q:VS} (g:s.heap.get? R=some (listOf items c0)) (h0:0<=k) (hf:k < 1000) (hx:items[k.toNat]?=some v) (h:Q v s)
  (hs:subscripted slice false (.ref R) (.int k u)=operate [.ref R,.int k u] (getItem (.ref R) (.int k u)):=by with_unfolding_all rfl):
  wpAny (model prog w) A (subscriptTail value slice (.ref R) (.int k u)) Q E s:=
 tail_any (qW (n:=c0) g).typeIs slot_list_getitem.lookup (wpAny_getItem_list (qW (n:=c0) g) h0 (Int.lt_trans hf (by decide)) hx h) hs
theorem yVq {vs:List Value} {k:Nat}:slicePick vs.toArray none (some (k:Int)) none=(vs.take k).toArray:=by
 rw [slicePick_upto']
theorem yWw (l:List Nat) (i:Nat):(l.map fun k:Nat=>(k:Int)).getD i 0=((l.getD i 0:Nat):Int):=by
 simp only [qR,List.getElem?_map]
 cases l[i]?<;>rfl
end
noncomputable def rawOf (x:Int):Rw:=if x.fmod 40=0 then .thorn else if x.fmod 40=1 then .txt ((x.fdiv 40).fmod 30).toNat else if x.fmod 40 < 10 then .boo (decide ((x.fdiv 40).fmod 2=1)) else if x.fmod 40 < 25 then .num ((x.fdiv 40).fmod 4) else .num (x.fdiv 40)
def IsR (v:Value) (r:Rw):Prop:=(v=.none/\r=.thorn)\/IsV v r
namespace K_law_raw
def zP (A:Around) (s:Shared) (b:Heap) (Q E:VS) (x:Int) (t:Tok):Prop:=∀ (hd:A.depth<=497) (hu:A.units<=470) (hA:A.handled=none) (st:b.StaysIn s.heap) (hsz:b.objs.size<=s.heap.objs.size) (X:(hd01.heap_1 w.params).In b) (T:Top p loose yQv mg mb b) (h:∀ v h' tk,b.StaysIn h'->IsR v (rawOf x)->Q v {s with heap:=h',toks:=tk}),
  wpAny (model prog w) A (call (.ref 89) [.int x t]) Q E s
def zc:=ep (U7 zP) ⟨({},(start default).1,default,fun O O=>True,fun O O=>True,0,0)⟩
def A:=zc.1
def s:=zc.2.1
def b:=zc.2.2.1
def x:=zc.2.2.2.2.2.1
theorem zh:zP A s b zc.2.2.2.1 zc.2.2.2.2.1 x zc.2.2.2.2.2.2:=by
 intro hd hu hA st hsz X T h
 obtain ⟨L',hL'⟩:∃ L':Addr,L'=s.heap.objs.size:=⟨_,rfl⟩
 refine wpAny_call ?_
 walk_at "en"
 intro ha1 F hk
 rw [<- hL'] at F ⊢
 have N:News b L' ha1 []:=News.nil
 (try k_fold)
 walk_at "rB"
 ·exact h _ _ _ (Fr.keep (by assumption)) (.inl ⟨rfl,by unfold rawOf;rw [qN (by assumption)]⟩)
 ·have g1:0<=(x.fdiv 40).fmod 30:=Int.fmod_nonneg_of_pos _ (by decide)
  have g2:(x.fdiv 40).fmod 30 < 30:=Int.fmod_lt_of_pos _ (by decide)
  refine str_of_int_fit (N:=30) (by rw [qM (Int.not_lt.mpr g1)];exact g2) (by decide) fun t'=>?_
  refine h _ _ _ (Fr.keep (by assumption)) (.inr ?_)
  unfold rawOf
  rw [qM (show ¬ x.fmod 40=0 by assumption),qN (show x.fmod 40=1 by assumption)]
  exact ⟨(Int.toNat_lt g1).mpr g2,_,by unfold txS;rw [Int.toNat_of_nonneg g1]⟩
 ·exact h _ _ _ (Fr.keep (by assumption)) (.inr (by unfold rawOf;rw [qM (show ¬ x.fmod 40=0 by assumption),qM (show ¬ x.fmod 40=1 by assumption),qN (show x.fmod 40 < 10 by assumption)];show _=_;rw [yBK]))
 ·exact h _ _ _ (Fr.keep (by assumption)) (.inr (by unfold rawOf;rw [qM (show ¬ x.fmod 40=0 by assumption),qM (show ¬ x.fmod 40=1 by assumption),qM (show ¬ x.fmod 40 < 10 by assumption),qN (show x.fmod 40 < 25 by assumption)];exact ⟨_,rfl⟩))
 ·exact h _ _ _ (Fr.keep (by assumption)) (.inr (by unfold rawOf;rw [qM (show ¬ x.fmod 40=0 by assumption),qM (show ¬ x.fmod 40=1 by assumption),qM (show ¬ x.fmod 40 < 10 by assumption),qM (show ¬ x.fmod 40 < 25 by assumption)];exact ⟨_,rfl⟩))
end K_law_raw
theorem yBD {A s b Q E x t}:K_law_raw.zP A s b Q E x t:=eps (P:=U7 K_law_raw.zP) K_law_raw.zh (A,s,b,Q,E,x,t)
theorem yWa (a b:String):Str.ofString a++Str.ofString b=Str.ofString (a++b):=by
 rw [Str.ofString_eq_toList,Str.ofString_eq_toList,Str.ofString_eq_toList,String.toList_append,List.map_append]
 show Str.append _ _=_
 unfold Str.append
 simp
theorem yBg {sy x y:String}:wds sy x y=Str.ofString "'"++Str.ofString sy++Str.ofString "' not supported between instances of '"++Str.ofString x++Str.ofString "' and '"++Str.ofString y++Str.ofString "'":=by
 simp only [yWa];rfl
theorem yAs {l:Array Value} {j:Nat} {t:Tok} (h:IntsAre l.toList ((List.range j).map Int.ofNat)):IntsAre (l.push (.int j t)).toList ((List.range (j+1)).map Int.ofNat):=by
 rw [List.range_succ,List.map_append]
 have e:(l.push (.int j t)).toList=l.toList++[.int j t]:=by simp
 rw [e]
 exact h.append (.cons _ _ .nil)
theorem yVG {LOG:Addr}:yQU [LOG] (LG LOG):=fun j h h' ⟨lo,h2,h3⟩ k=>⟨lo,k _ (.head _) _ h2,h3⟩
namespace K_law_name
def zP (A:Around) (s:Shared) (b:Heap) (Q E:VS):Prop:=∀ (v:Value) (r:Rw) (hd:A.depth<=497) (hu:A.units<=470) (hA:A.handled=none) (st:b.StaysIn s.heap) (hsz:b.objs.size<=s.heap.objs.size) (X:(hd01.heap_1 w.params).In b) (T:Top p loose yQv mg mb b) (hv:IsV v r) (h:∀ h' tk t,b.StaysIn h'->Q (.str (Str.ofString r.kd) t) {s with heap:=h',toks:=tk}),
  wpAny (model prog w) A (call (.ref 103) [v]) Q E s
def zc:=ep (U5 zP) ⟨({},(start default).1,default,fun O O=>True,fun O O=>True)⟩
def A:=zc.1
def s:=zc.2.1
def b:=zc.2.2.1
theorem zh:zP A s b zc.2.2.2.1 zc.2.2.2.2:=by
 intro v r hd hu hA st hsz X T hv h
 obtain ⟨L',hL'⟩:∃ L':Addr,L'=s.heap.objs.size:=⟨_,rfl⟩
 refine wpAny_call ?_
 walk_at "en"
 intro ha1 F hk
 rw [<- hL'] at F ⊢
 have N:News b L' ha1 []:=News.nil
 (try k_fold)
 cases r
 ·obtain ⟨t,rfl⟩:=hv
  walk_at "rB"
  exact h _ _ _ (Fr.keep (by assumption))
 ·cases hv
  walk_at "rB"
  exact h _ _ _ (Fr.keep (by assumption))
 ·obtain ⟨_,t,rfl⟩:=hv
  walk_at "rB"
  exact h _ _ _ (Fr.keep (by assumption))
 ·exact hv.elim
end K_law_name
section
variable {A:Around} {s:Shared} {b:Heap} {Q:VS} {E:VS}
theorem yJn {v:Value} {r:Rw} (hd:A.depth<=497) (hu:A.units<=470) (hA:A.handled=none) (st:b.StaysIn s.heap) (hsz:b.objs.size<=s.heap.objs.size) (X:(hd01.heap_1 w.params).In b) (T:Top p loose yQv mg mb b)
  (hv:IsV v r) (h:∀ h' tk t,b.StaysIn h'->Q (.str (Str.ofString r.kd) t) {s with heap:=h',toks:=tk}):
  wpAny (model prog w) A (call (.ref 103) [v]) Q E s:=
 eps (P:=U5 K_law_name.zP) K_law_name.zh (A,s,b,Q,E) v r hd hu hA st hsz X T hv h
end
namespace K_law_words
def zP (A:Around) (s:Shared) (b:Heap) (Q E:VS) (sy x y:String) (t1 t2 t3:Tok):Prop:=∀ (hd:A.depth<=497) (hu:A.units<=470) (hA:A.handled=none) (st:b.StaysIn s.heap) (hsz:b.objs.size<=s.heap.objs.size) (X:(hd01.heap_1 w.params).In b) (T:Top p loose yQv mg mb b) (l1:(Str.ofString sy).length<=10) (l2:(Str.ofString x).length<=10) (l3:(Str.ofString y).length<=10) (h:∀ h' tk t,b.StaysIn h'->Q (.str (wds sy x y) t) {s with heap:=h',toks:=tk}),
  wpAny (model prog w) A (call (.ref 110) [.str (Str.ofString sy) t1,.str (Str.ofString x) t2,.str (Str.ofString y) t3]) Q E s
def zc:=ep (U11 zP) ⟨({},(start default).1,default,fun O O=>True,fun O O=>True,"","","",0,0,0)⟩
def A:=zc.1
def s:=zc.2.1
def b:=zc.2.2.1
theorem zh:zP A s b zc.2.2.2.1 zc.2.2.2.2.1 zc.2.2.2.2.2.1 zc.2.2.2.2.2.2.1 zc.2.2.2.2.2.2.2.1 zc.2.2.2.2.2.2.2.2.1 zc.2.2.2.2.2.2.2.2.2.1 zc.2.2.2.2.2.2.2.2.2.2:=by
 intro hd hu hA st hsz X T l1 l2 l3 h
 obtain ⟨L',hL'⟩:∃ L':Addr,L'=s.heap.objs.size:=⟨_,rfl⟩
 refine wpAny_call ?_
 walk_at "en"
 intro ha1 F hk
 rw [<- hL'] at F ⊢
 have N:News b L' ha1 []:=News.nil
 (try k_fold)
 walk_at "rB"
 have z:=fun tk t=>h _ tk t (Fr.keep (show Fr b L' _ _ by assumption))
 rw [yBg] at z
 exact z _ _
end K_law_words
theorem yQQ {A s b Q E sy x y t1 t2 t3}:K_law_words.zP A s b Q E sy x y t1 t2 t3:=eps (P:=U11 K_law_words.zP) K_law_words.zh (A,s,b,Q,E,sy,x,y,t1,t2,t3)
namespace K_law_worth
def zP (A:Around) (s:Shared) (b:Heap) (Q E:VS) (LOG RWS:Addr) (j N cR:Nat) (vs:List Value) (raw:Nat->Rw) (outer:List Env) (t:Tok):Prop:=∀ (hd:A.depth<=500) (hu:A.units<=810) (hA:A.handled=none) (hfr:A.frames=some outer) (ff:b.FunFrames (fb b outer) outer) (st:b.StaysIn s.heap) (hsz:b.objs.size<=s.heap.objs.size) (X:(hd01.heap_1 w.params).In b) (T:Top p loose yQv mg mb b) (hR:b.get? RWS=some (listOf vs.toArray cR)) (hvs:vs.length=N) (hj:j < N) (h128:N < 128) (hbl:b.get? LOG=none) (hlg:LG LOG j s.heap) (hr:IsR (vs.getD j .none) (raw j)) (hQ:∀ h' tk,raw j≠.thorn->b.StaysIn h'->LG LOG (j+1) h'->Q (vs.getD j .none) {s with heap:=h',toks:=tk}) (hE:∀ ex h' tk b2,raw j=.thorn->(fb b outer).StaysIn b2->LG LOG (j+1) b2->yQs "ValueError" b2 outer s.heap (·=thW j) ex h'->E (.ref ex) {s with heap:=h',toks:=tk}),
  wpAny (model prog w) A (call (.ref 96) [.ref LOG,.ref RWS,.int j t]) Q E s
def zc:=ep (U14 zP) ⟨({},(start default).1,default,fun O O=>True,fun O O=>True,0,0,0,0,0,[],fun O=>.thorn,[],0)⟩
def zd1:=zc.2.2.2.2.2.2.2.2
def A:=zc.1
def s:=zc.2.1
def b:=zc.2.2.1
def LOG:=zc.2.2.2.2.2.1
def j:=zc.2.2.2.2.2.2.2.1
def N:=zd1.1
def vs:=zd1.2.2.1
def raw:=zd1.2.2.2.1
def t:=zd1.2.2.2.2.2
theorem zh:zP A s b zc.2.2.2.1 zc.2.2.2.2.1 LOG zc.2.2.2.2.2.2.1 j N zd1.2.1 vs raw zd1.2.2.2.2.1 t:=by
 intro hd hu hA hfr ff st hsz X T hR hvs hj h128 hbl hlg hr hQ hE
 obtain ⟨L',hL'⟩:∃ L':Addr,L'=s.heap.objs.size:=⟨_,rfl⟩
 refine wpAny_call ?_
 walk_at "en"
 intro ha1 F hk
 rw [<- hL'] at F ⊢
 obtain ⟨lo,gl,items,cl,rfl,il⟩:=hlg
 have hlL:LOG < L':=by rw [hL'];exact qU gl
 have N:News b L' ha1 [(LOG,listOf items cl)]:=fun q hq=>by
  rw [qC.mp hq];exact ⟨hk _ _ gl,vB hlL,hbl⟩
 (try k_fold)
 walk_at "rB"
 have hil:items.size=j:=by have:=il.length;simpa using this
 refine wpAny_list_append_plain ⟨_,(N _ (.head _)).1⟩ (fun h2 l2 s2=>?_) (hsz:=by rw [hil,sizeLine_eq];exact wM (vV hj (vV h128 (by decide))))
 obtain ⟨c2,l2⟩:=l2
 have F2:=fr_change F N (.head _) s2
 have N2:News b L' h2 [(LOG,listOf (items.push (.int j t)) c2)]:=fun q hq=>by
  rw [qC.mp hq];exact ⟨l2,(N _ (.head _)).2⟩
 have il2:=yAs (t:=t) il
 clear F N
 have hj':vs.toArray[((j:Int)).toNat]?=some (vs.getD j .none):=by simp [qR,show j < vs.length from by rw [hvs];exact hj]
 walk_at "rB"
 refine yQf (F2.keep _ _ hR) (vM _) (ltJ hj h128) hj' ?_
 rcases hr with ⟨e1,e2⟩ | hv
 ·rw [e1]
  walk_at "rB"
  refine Raise_madeB F.excCall_ValueError F.excRaise_ValueError hA ?_
  walk_at "rB"
  refine str_of_int_fit (N:=128) (by rw [qM (Int.not_lt.mpr (vM j))];exact Int.ofNat_lt.mpr (vV hj h128)) (by decide) fun t'=>?_
  walk_at "rB"
  exact yZn (Ms0:=[LOG]) (Rd:=LG LOG) (r:=j+1) (h0:=s.heap) (b:=b) (mm:=thW j) (fun ex h' tk b2 x1 x2 x3=>hE ex h' tk b2 e2 x1 x2 x3) hfr F2 ⟨fun _ _ q=>q,framed_b ff st (fun _ _ q=>q),ff,qV (by rw [hL'];exact hsz)⟩ ⟨_,l2,_,_,rfl,il2⟩ yVG (fun a ha=>by
   rw [qC.mp ha]
   exact ⟨hlL,fun z=>by obtain ⟨o,ho⟩:=yQZ ff z;rw [hbl] at ho;cases ho⟩) (by assumption)
 ·have hnt:raw j≠.thorn:=fun z=>by rw [z] at hv;exact hv
  have hne:vs.getD j .none≠.none:=by
   cases r:raw j<;>rw [r] at hv
   ·obtain ⟨t,z⟩:=hv;rw [z];(intro z;cases z)
   ·rw [show vs.getD j .none=.bool _ from hv];(intro z;cases z)
   ·obtain ⟨_,t,z⟩:=hv;rw [z];(intro z;cases z)
   ·exact hv.elim
  walk_at "rB"
  refine is_none_ne hne ?_
  walk_at "rB"
  refine yQf (F2.keep _ _ hR) (vM _) (ltJ hj h128) hj' ?_
  walk_at "rB"
  exact hQ _ _ hnt F2.keep ⟨_,l2,_,_,rfl,il2⟩
end K_law_worth
theorem yWk {A s b Q E LOG RWS j N cR vs raw outer t}:K_law_worth.zP A s b Q E LOG RWS j N cR vs raw outer t:=eps (P:=U14 K_law_worth.zP) K_law_worth.zh (A,s,b,Q,E,LOG,RWS,j,N,cR,vs,raw,outer,t)
def yCd (h:Heap) (v:Value) (zs:List Int):Prop:=X3 fun T m vals=>A3 (v=.ref T) (h.get? T=some { cls:=.type "tuple",data:=.seq (List.toArray vals) m }) (IntsAre vals zs)
theorem yCd.keeps {h h':Heap} {v:Value} {zs:List Int} (x:yCd h v zs) (k:h.StaysIn h'):yCd h' v zs:=by
 obtain ⟨T,m,vals,e,g,i⟩:=x
 exact ⟨T,m,vals,e,k _ _ g,i⟩
noncomputable def lexI:List Int->List Int->Bool
 | a::as,b::bs=>if a=b then lexI as bs else decide (a < b)
 | _,_=>false
noncomputable def byS (S:Nat->Int) (i j:Nat):Bool:=decide (S i < S j) || (decide (S i=S j) && decide (i < j))
theorem yBU {S:Nat->Int}:SWO (byS S):=⟨fun a b h=>yYR (fun a b=>lt_irrefl _ (vV a b)) h,fun a b c h1 h2=>yAV (fun a b=>vX.mpr (qZ (vX.mp b) (vX.mp a))) h1 h2⟩
theorem yBV {S:Nat->Int} {N:Nat} {ord:List Nat} (h:yQw (byS S) false N ord):ord=ordD (fun p=>- S p) N:=by
 refine yVY (h.2.imp fun {a b} hab=>?_) h.1
 unfold lt2 byS at hab
 simp only [wH,if_false,or_eq_true,and_eq_true,decide_eq_true_eq,or_eq_false_iff,decide_eq_false_iff_not,and_eq_false_iff] at hab
 unfold bet
 exact np6 hab
section
variable {A:Around} {s:Shared} {E:VS}
theorem yYn {Q:Bool->Shared->Prop} {vs us:List Value} {as bs:List Int} (i:Nat) (x:IntsAre vs as) (y:IntsAre us bs) (hl:as.length=bs.length) (h:Q (lexI as bs) s):yDi prog w A true false Q E (vs.zip us) i s:=by
 induction x generalizing us bs i with
 | nil=>cases y with
  | nil=>exact h
  | cons=>cases hl
 | cons a t r ih=>cases y with
  | nil=>cases hl
  | cons b u r'=>
   show wpAny _ _ (eqBool (.int a t) (.int b u)) _ _ _
   refine yWU ?_
   by_cases e:a=b
   ·simp only [e,decide_true,if_true]
    rw [lexI,qN e] at h
    exact ih (i+1) r' (Nat.succ.inj hl) h
   ·simp only [e,decide_false,wH,if_false]
    rw [lexI,qM e] at h
    cases i with
    | zero=>exact oneLt_int h
    | succ i=>exact kat_one _ _ (lt_int h)
theorem yBz {u v:Value} {zs ys:List Int} {Q:Bool->Shared->Prop} (hu:yCd s.heap u zs) (hv:yCd s.heap v ys) (hl:zs.length=ys.length) (h:Q (lexI zs ys) s):wpAny (model prog w) A (keyLt' (tuples' true) u v) Q E s:=by
 obtain ⟨T,m,vals,rfl,g,i⟩:=hu
 obtain ⟨T',m',vals',rfl,g',i'⟩:=hv
 refine yYm g rfl g' rfl ?_
 have e:decide (vals.toArray.size < vals'.toArray.size)=false:=by
  simp only [size_toArray,i.length,i'.length,hl,lt_irrefl,decide_false]
 rw [e]
 exact yYn 0 i i' hl h
theorem yWl {N n:Nat} {e:Nat->Value} {z:Nat->List Int} (hn:0 < n):∀ l:List Nat,(∀ i∈l,yCd s.heap (e i) (z i)/\(z i).length=n)->∃ fs,A3 (fs.length=l.length) (KatTups s.heap (l.map e) fs) (∀ v∈fs,Looks (model prog w) s.heap (typeOf v) (.type "int"))
 | [],_=>⟨[],rfl,trivial,fun v hv=>nomatch hv⟩
 | i::l,h=>by
  obtain ⟨fs,il,i1,i2⟩:=yWl (N:=N) hn l fun j hj=>h j (.tail _ hj)
  obtain ⟨⟨T,m,vals,e1,g,iv⟩,hl⟩:=h i (.head _)
  generalize z i=zi at iv hl
  cases iv with
  | nil=>rw [<- hl] at hn;exact absurd hn (lt_irrefl 0)
  | cons a t r=>
   refine ⟨.int a t::fs,by rw [length_cons,length_cons,il],⟨⟨T,_,_,m,e1,g,rfl,rfl,rfl⟩,i1⟩,fun v hv=>?_⟩
   rcases qG.mp hv with rfl | hv
   ·exact Looks.of_pure rfl
   ·exact i2 v hv
theorem yJM {l:Addr} {N n:Nat} {e:Nat->Value} {z:Nat->List Int} {S:Nat->Int} {c:Nat} {Q:VS} (hl:s.heap.get? l=some (listOf ((List.range N).map e).toArray c)) (h128:N < 128) (hn:0 < n)
  (hz:∀ i,i < N->yCd s.heap (e i) (z i)/\(z i).length=n) (hS:∀ i j,i < N->j < N->lexI (z i) (z j)=byS S i j)
  (h:∀ R h' tk c,s.heap.StaysIn h'->s.heap.get? R=none->h'.get? R=some (listOf ((ordD (fun p=>- S p) N).map e).toArray c)->Q (.ref R) {s with heap:=h',toks:=tk}):
  wpAny (model prog w) A (call (.builtin "sorted") [.ref l] []) Q E s:=by
 refine yJb (fun x=>by kernel_rfl) (fun a=>args_list_sort _) hl (by simpa using h128) fun R h' st hR hR'=>?_
 rw [so_p0]
 have hlen:((List.range N).map e).length=N:=by simp
 have st2:s.heap.StaysIn (hideAll h' [R]):=fun y o q=>vJ _ (st y o q) fun z=>by rw [qC.mp z,hR] at q;cases q
 have gv:∀ i,i < N->((List.range N).map e).getD i .none=e i:=fun i hi=>by simp [hi]
 refine yJE (s:={s with heap:=h'}) (X:=fun f=>f=byS S) (Wd:=fun O=>False) (κ:=tuples' true) hR' (by simpa using h128) (by rintro f rfl;exact yBU) ⟨_,rfl⟩ (fun h2 s' Q st' q=>?_) (fun i j Q E' s' hi hj st' q qE=>?_) ?_ ?_
 ·obtain ⟨fs,il,k1,k2⟩:=yWl (s:=s') (N:=N) (e:=e) (z:=z) hn (List.range N) fun i hi=>⟨(hz i (mem_range.mp hi)).1.keeps fun y o q=>st' _ _ (st2 _ _ q),(hz i (mem_range.mp hi)).2⟩
  exact kat_kind k1 (by rw [hlen] at h2;rw [il,length_range];exact qP Nat.zero_lt_two h2) k2 rfl q
 ·rw [hlen] at hi hj
  rw [gv i hi,gv j hj]
  refine yBz ((hz i hi).1.keeps fun y o q=>st' _ _ (st2 _ _ q)) ((hz j hj).1.keeps fun y o q=>st' _ _ (st2 _ _ q)) ((hz i hi).2.trans (hz j hj).2.symm) ?_
  rw [hS i j hi hj]
  exact q _ s'.toks (by rintro f rfl;rfl)
 ·intro ord h3 tk c3 ho st3 hc3
  rw [hlen] at ho
  have ho:=ho _ rfl
  refine ⟨_,rfl,h R h3 tk c3 (fun y o q=>st3 _ _ (st2 _ _ q)) hR ?_⟩
  rw [hc3,<- yBV ho]
  have:(ord.map fun i=>((List.range N).map e).getD i .none)=ord.map e:=map_congr_left fun i hi=>gv i (by simpa using ho.1.mem_iff.mp hi)
  rw [this]
 ·exact fun H h' tk e m t _ _ hm=>hm.elim
end
theorem yZZ {N:Nat} {eT:Nat->Value} {a b:Nat->Int} {tps:List (Addr×Obj)} (h:∀ k,k < N->X3 fun T t1 t2=>eT k=.ref T/\(T,({ cls:=.type "tuple",data:=.seq #[.int (a k) t1,.int (b k) t2] }:Obj))∈tps):
  ∃ f:Nat->Addr×Tok×Tok,∀ k,k < N->eT k=.ref (f k).1/\((f k).1,({ cls:=.type "tuple",data:=.seq #[.int (a k) (f k).2.1,.int (b k) (f k).2.2] }:Obj))∈tps:=by
 refine Classical.axiomOfChoice (r:=fun k (f:Addr×Tok×Tok)=>k < N->eT k=.ref f.1/\(f.1,({ cls:=.type "tuple",data:=.seq #[.int (a k) f.2.1,.int (b k) f.2.2] }:Obj))∈tps) fun k=>?_
 by_cases hk:k < N
 ·obtain ⟨T,t1,t2,q⟩:=h k hk
  exact ⟨(T,t1,t2),fun O=>q⟩
 ·exact ⟨default,fun q=>absurd q hk⟩
theorem yBx {N:Nat} {e:Nat->Value} {f:Nat->Addr} (h:∀ p,p < N->e p=.ref (f p)):(List.range N).map e=(List.range N).map fun p=>Value.ref (f p):=
 map_congr_left fun p hp=>h p (mem_range.mp hp)
section
variable {sc:Nat->Int} {N w:Nat}
noncomputable def bt (sc:Nat->Int) (a b:Nat):Bool:=decide (sc b < sc a) || (decide (sc a=sc b) && decide (a < b))
theorem yZC {a b:Nat}:bt sc a b=true↔bet sc a b:=by unfold bt bet;simp
noncomputable def ahd (sc:Nat->Int) (N k:Nat):Nat:=((List.range N).filter fun q=>bt sc q k).length
theorem yAW {p:Nat}:∀ {l:List Nat},l.Pairwise (bet sc)->p∈l->l[(l.filter fun q=>bt sc q p).length]?=some p
 | [],_,h=>by simp at h
 | a::r,h,hm=>by
  obtain ⟨h1,h2⟩:=pairwise_cons.mp h
  by_cases e:a=p
  ·subst e
   have z:(r.filter fun q=>bt sc q a)=[]:=by
    rw [List.filter_eq_nil_iff]
    intro c hc q
    exact bet_asym (h1 c hc) (yZC.mp q)
   have z':bt sc a a=false:=by
    cases q:bt sc a a with
    | false=>rfl
    | true=>exact absurd (yZC.mp q) yBW
   simp [z,z']
  ·have hm':p∈r:=by
    rcases qG.mp hm with q | q
    ·exact absurd q.symm e
    ·exact q
   have z:bt sc a p=true:=yZC.mpr (h1 p hm')
   simp only [List.filter_cons,z,if_true,length_cons,List.getElem?_cons_succ]
   exact yAW h2 hm'
theorem ahd_at {p:Nat} (hp:p < N):(ordD sc N)[ahd sc N p]?=some p:=by
 have h:=yAW (sc:=sc) (ordD_pw N) (ordD_mem.mpr hp)
 have e1:((ordD sc N).filter fun q=>bt sc q p).length=((List.range N).filter fun q=>bt sc q p).length:=((ordD_perm N).filter _).length_eq
 rw [e1] at h;exact h
theorem yBZ {a b:Nat} (ha:a < N) (hb:b < N) (h:ahd sc N a < ahd sc N b\/(ahd sc N a=ahd sc N b/\a < b)):bet sc a b:=by
 have h1:=ahd_at (sc:=sc) ha
 have h2:=ahd_at (sc:=sc) hb
 rcases h with h | ⟨h,l⟩
 ·obtain ⟨l1,e1⟩:=List.getElem?_eq_some_iff.mp h1
  obtain ⟨l2,e2⟩:=List.getElem?_eq_some_iff.mp h2
  have:=pairwise_iff_getElem.mp (ordD_pw (sc:=sc) N) _ _ l1 l2 h
  rw [e1,e2] at this;exact this
 ·rw [h,h2] at h1
  exact absurd (wD h1).symm (vB l)
theorem yAL:((ordD (fun i=>- (ahd sc N (((List.range N).filter fun k=>decide (ahd sc N k < w)).getD i 0):Int)) ((List.range N).filter fun k=>decide (ahd sc N k < w)).length).map fun i=>((List.range N).filter fun k=>decide (ahd sc N k < w)).getD i 0)=(ordD sc N).take w:=by
 have hC:∀ i,i < ((List.range N).filter fun k=>decide (ahd sc N k < w)).length->((List.range N).filter fun k=>decide (ahd sc N k < w)).getD i 0∈(List.range N).filter fun k=>decide (ahd sc N k < w):=fun i hi=>by
  rw [qR,qT hi];exact wK hi
 have hin:∀ k,k∈((List.range N).filter fun k=>decide (ahd sc N k < w))↔k < N/\ahd sc N k < w:=fun k=>by
  rw [List.mem_filter,mem_range,decide_eq_true_eq]
 have hnd:((List.range N).filter fun k=>decide (ahd sc N k < w)).Pairwise (· < ·):=List.pairwise_lt_range.filter _
 generalize hCC:((List.range N).filter fun k=>decide (ahd sc N k < w))=C at *
 refine yWL (sc:=sc) ?_ ((ordD_pw N).sublist (vQ w _)) ?_
 ·rw [pairwise_map]
  refine List.Pairwise.imp_of_mem ?_ (ordD_pw (sc:=fun i=>- (ahd sc N (C.getD i 0):Int)) C.length)
  intro a b ha hb h
  have h1:=ordD_mem.mp ha
  have h2:=ordD_mem.mp hb
  refine yBZ ((hin _).mp (hC a h1)).1 ((hin _).mp (hC b h2)).1 ?_
  unfold bet at h
  rcases h with h | ⟨h,l⟩
  ·left;exact Int.ofNat_lt.mp (Int.neg_lt_neg_iff.mp h)
  ·refine .inr ⟨Int.ofNat_inj.mp (Int.neg_inj.mp h),?_⟩
   have:=pairwise_iff_getElem.mp hnd a b h1 h2 l
   rw [qR,qR,qT h1,qT h2]
   exact this
 ·have p1:((ordD (fun i=>- (ahd sc N (C.getD i 0):Int)) C.length).map fun i=>C.getD i 0).Perm C:=by
   refine ((ordD_perm C.length).map _).trans (.of_eq ?_)
   refine ext_getElem (by simp) fun i a b=>?_
   simp [qR,b]
  refine p1.trans ((List.perm_ext_iff_of_nodup (hnd.imp vB) ((ordD_nodup N).sublist (vQ _ _))).mpr fun k=>?_)
  rw [hin k]
  constructor
  ·rintro ⟨h1,h2⟩
   have:=ahd_at (sc:=sc) h1
   rw [List.mem_take_iff_getElem]
   obtain ⟨l,e⟩:=List.getElem?_eq_some_iff.mp this
   exact ⟨ahd sc N k,Nat.lt_min.mpr ⟨h2,l⟩,e⟩
  ·intro h
   have h1:k < N:=ordD_mem.mp (mem_of_mem_take h)
   refine ⟨h1,?_⟩
   obtain ⟨i,hi,e⟩:=List.mem_take_iff_getElem.mp h
   obtain ⟨l,e2⟩:=List.getElem?_eq_some_iff.mp (ahd_at (sc:=sc) h1)
   have hi':=Nat.lt_min.mp hi
   have:i=ahd sc N k:=yWd (ordD_nodup (sc:=sc) N) hi'.2 l (e.trans e2.symm)
   rw [<- this];exact hi'.1
end
def ChO (sc:Nat->Int) (N w:Nat) (k:Nat) (o:Obj):Prop:=X2 fun t1 t2=>o={ cls:=.type "tuple",data:=.seq #[.int (ahd sc N k) t1,.int (k:Int) t2] }
def ChJ (sc:Nat->Int) (N w:Nat) (RWS CH:Addr) (wish:Int) (tw:Tok) (dn:Bool) (j:Nat) (m:Str->Option Value) (news:List (Addr×Obj)):Prop:=
 X2 fun rs c=>A7 (news=(CH,listOf (rs.map fun q:Addr×Obj=>Value.ref q.1).toArray c)::rs) (rs.length=((List.range j).filter fun k=>decide (ahd sc N k < w)).length) (∀ i q,rs[i]?=some q->ChO sc N w (((List.range j).filter fun k=>decide (ahd sc N k < w)).getD i 0) q.2) (m (Str.ofString "raws")=some (.ref RWS)) (m (Str.ofString "wish")=some (.int wish tw)) (m (Str.ofString "largest")=some (.bool dn)) (m (Str.ofString "chosen")=some (.ref CH))
def InJ (sc:Nat->Int) (RWS CH:Addr) (wish:Int) (tw:Tok) (dn:Bool) (k:Nat) (NW:List (Addr×Obj)) (j:Nat) (m:Str->Option Value) (news:List (Addr×Obj)):Prop:=
 A7 (news=NW) (m (Str.ofString "raws")=some (.ref RWS)) (m (Str.ofString "wish")=some (.int wish tw)) (m (Str.ofString "largest")=some (.bool dn)) (m (Str.ofString "chosen")=some (.ref CH)) (∃ t,m (Str.ofString "k")=some (.int (k:Int) t)) (∃ t,m (Str.ofString "ahead")=some (.int (((List.range j).filter fun q=>bt sc q k).length:Nat) t))
theorem yBP {A:Around} {E:VS} {s:Shared} {u v:Value} {a b:Rw} {Q:VS} (hu:IsV u a) (hv:IsV v b) (ht:a.t=b.t) (h:Q (.bool (decide (a.z=b.z))) s):wpAny (model prog w) A (compareOp .Eq u v) Q E s:=by
 cases a<;>cases b<;>first | exact hu.elim | exact hv.elim | cases ht | skip
 ·obtain ⟨t,rfl⟩:=hu;obtain ⟨t',rfl⟩:=hv
  exact eq_int (by rw [yBK];exact h)
 ·obtain ⟨t,rfl⟩:=hu;cases hv
  exact EqBoolInt.eq_int_bool (by rw [yBK];exact h)
 ·cases hu;obtain ⟨t',rfl⟩:=hv
  exact EqBoolInt.eq_bool_int (by rw [yBK];exact h)
 ·cases hu;cases hv
  rename_i x y
  exact eq_bool (by cases x<;>cases y<;>exact h)
 ·obtain ⟨h1,t,rfl⟩:=hu;obtain ⟨h2,t',rfl⟩:=hv
  refine eq_str ?_
  rw [(rk_lt _ h1 _ h2).2]
  rename_i k1 k2
  have e:decide (rk k1=rk k2)=decide (((rk k1:Nat):Int)=((rk k2:Nat):Int)):=decide_eq_decide.mpr Int.ofNat_inj.symm
  rw [e];exact h
theorem yZB {sc:Nat->Int} {k j:Nat}:((List.range (j+1)).filter fun q=>bt sc q k).length=((List.range j).filter fun q=>bt sc q k).length+(if bt sc j k=true then 1 else 0):=by
 rw [List.range_succ,List.filter_append,length_append]
 congr 1
 by_cases h:bt sc j k=true
 ·rw [qN h];simp [h]
 ·rw [qM h];simp [h]
theorem yWV {p:Nat->Bool} {j:Nat}:(List.range (j+1)).filter p=(List.range j).filter p++(if p j=true then [j] else []):=by
 rw [List.range_succ,List.filter_append]
 congr 1
 by_cases h:p j=true
 ·rw [qN h];simp [h]
 ·rw [qM h];simp [h]
theorem yBT {B h8 h9:Heap} {L I CH D:Addr} {o oc tup:Obj} {rs:List (Addr×Obj)} {c9:Nat} (N8:News B L h8 ((D,tup)::(I,o)::(CH,oc)::rs)) (nD:D≠CH) (nI:CH≠I) (off:∀ q∈rs,q.1≠CH) (s9:Heap.SameBut CH h8 h9) (l9:h9.get? CH=some (listOf ((rs.map fun q:Addr×Obj=>Value.ref q.1).toArray.push (.ref D)) c9)):News B L h9 ((I,o)::(CH,listOf ((rs++[(D,tup)]).map fun q:Addr×Obj=>Value.ref q.1).toArray c9)::(rs++[(D,tup)])):=fun q hq=>by
 rcases qG.mp hq with rfl | hq
 ·have z:=N8 _ (.tail _ (.head _))
  exact ⟨s9.extBut _ _ nI.symm z.1,z.2⟩
 rcases qG.mp hq with rfl | hq
 ·exact ⟨l9.trans (by simp),(N8 _ (.tail _ (.tail _ (.head _)))).2⟩
 rcases qF.mp hq with hq | hq
 ·have z:=N8 q (.tail _ (.tail _ (.tail _ hq)))
  exact ⟨s9.extBut _ _ (off q hq) z.1,z.2⟩
 ·rw [qC] at hq;subst hq
  have z:=N8 _ (.head _)
  exact ⟨s9.extBut _ _ nD z.1,z.2⟩
theorem yDx {a:Nat->Int} {C:List Nat} {i j:Nat} (hC:C.Pairwise (· < ·)) (hi:i < C.length) (hj:j < C.length):lexI [a i,(C.getD i 0:Int)] [a j,(C.getD j 0:Int)]=byS a i j:=by
 have hl:(C.getD i 0 < C.getD j 0)↔i < j:=by
  have pw:=pairwise_iff_getElem.mp hC
  rw [qR,qR,qT hi,qT hj]
  simp only [Option.getD_some]
  rcases lt_trichotomy i j with q | q | q
  ·exact ⟨fun O=>q,fun O=>pw i j hi hj q⟩
  ·subst q;exact ⟨fun z=>absurd z (lt_irrefl _),fun z=>absurd z (lt_irrefl _)⟩
  ·exact ⟨fun z=>absurd (vV z (pw j i hj hi q)) (lt_irrefl _),fun z=>absurd (vV z q) (lt_irrefl _)⟩
 unfold lexI byS
 by_cases e:a i=a j
 ·rw [qN e,decide_eq_true e,Bool.true_and,decide_eq_false (by rw [e];exact Int.lt_irrefl _),Bool.false_or]
  unfold lexI
  by_cases e2:(C.getD i 0:Int)=C.getD j 0
  ·rw [qN e2]
   exact (decide_eq_false fun z=>absurd (hl.mpr z) (by rw [Int.ofNat_inj.mp e2];exact lt_irrefl _)).symm
  ·rw [qM e2]
   exact decide_eq_decide.mpr (Int.ofNat_lt.trans hl)
 ·rw [qM e,decide_eq_false e,Bool.false_and,Bool.or_false]
theorem yBS {sc:Nat->Int} {N w k:Nat} {rs:List (Addr×Obj)} {x:Addr×Obj} (hlen:rs.length=((List.range k).filter fun k=>decide (ahd sc N k < w)).length) (hM:∀ i q,rs[i]?=some q->ChO sc N w (((List.range k).filter fun k=>decide (ahd sc N k < w)).getD i 0) q.2) (hp:ahd sc N k < w) (hx:ChO sc N w k x.2):
  (rs++[x]).length=((List.range (k+1)).filter fun k=>decide (ahd sc N k < w)).length/\∀ i q,(rs++[x])[i]?=some q->ChO sc N w (((List.range (k+1)).filter fun k=>decide (ahd sc N k < w)).getD i 0) q.2:=by
 rw [yWV,qN (decide_eq_true hp)]
 refine ⟨by rw [length_append,length_append,hlen];rfl,fun i q hq=>?_⟩
 rcases lt_or_ge i rs.length with h | h
 ·rw [List.getElem?_append_left h] at hq
  rw [qR,List.getElem?_append_left (by rw [<- hlen];exact h),<- qR]
  exact hM i q hq
 ·rw [List.getElem?_append_right h] at hq
  have e:i - rs.length=0:=by
   cases z:i - rs.length with
   | zero=>rfl
   | succ n=>rw [z] at hq;cases hq
  rw [e] at hq
  cases wD hq
  rw [qR,List.getElem?_append_right (by rw [<- hlen];exact h),<- hlen,e]
  exact hx
theorem yCS {dn:Bool} {M:Int} {raw:Nat->Rw} {j k:Nat} (h:(raw j).t=(raw k).t):bt (scR dn M raw 0) j k=((if dn=true then decide ((raw k).z < (raw j).z) else decide ((raw j).z < (raw k).z)) || (decide ((raw j).z=(raw k).z) && decide (j < k))):=by
 have e:scR dn M raw 0 j=scR dn M raw 0 k↔(raw j).z=(raw k).z:=by
  unfold scR scD
  cases dn
  ·simp only [wH,if_false,Int.neg_inj];exact sc_eq h
  ·simp only [if_true];exact sc_eq h
 have l:=scR_lt (dn:=dn) (M:=M) (raw:=raw) (j:=0) h.symm
 unfold bt
 congr 1
 ·cases dn
  ·simp only [wH,if_false] at l ⊢;exact decide_eq_decide.mpr l
  ·simp only [if_true] at l ⊢;exact decide_eq_decide.mpr l
 ·rw [decide_eq_decide.mpr e]
namespace K_law_best
def zP (A:Around) (s:Shared) (b:Heap) (Q E:VS) (RWS:Addr) (N cR:Nat) (vs:List Value) (raw:Nat->Rw) (wish:Int) (t:Tok) (dn:Bool) (M:Int):Prop:=∀ (hd:A.depth<=497) (hu:A.units<=470) (hA:A.handled=none) (st:b.StaysIn s.heap) (hsz:b.objs.size<=s.heap.objs.size) (X:(hd01.heap_1 w.params).In b) (T:Top p loose yQv mg mb b) (hR:b.get? RWS=some (listOf vs.toArray cR)) (hvs:vs.length=N) (h128:N < 128) (hv:∀ j,j < N->IsV (vs.getD j .none) (raw j)) (hF:Fst raw N) (hw:1<=wish) (h:∀ R h' tk c us,b.StaysIn h'->b.get? R=none->h'.get? R=some (listOf (List.toArray us) c)->IntsAre us (((ordD (scR dn M raw 0) N).take wish.toNat).map fun k:Nat=>(k:Int))->Q (.ref R) {s with heap:=h',toks:=tk}),
  wpAny (model prog w) A (call (.ref 115) [.ref RWS,.int wish t,.bool dn]) Q E s
def zc:=ep (U14 zP) ⟨({},(start default).1,default,fun O O=>True,fun O O=>True,0,0,0,[],fun O=>.thorn,0,0,true,0)⟩
def zd1:=zc.2.2.2.2.2.2.2.2
def A:=zc.1
def s:=zc.2.1
def b:=zc.2.2.1
def Q:=zc.2.2.2.1
def RWS:=zc.2.2.2.2.2.1
def N:=zc.2.2.2.2.2.2.1
def vs:=zd1.1
def raw:=zd1.2.1
def wish:=zd1.2.2.1
def t:=zd1.2.2.2.1
def dn:=zd1.2.2.2.2.1
def M:=zd1.2.2.2.2.2
def yVN:Σ' R:Addr->Heap->Prop,U2 R (ep (U2 R) ⟨(0,default)⟩)->zP A s b Q zc.2.2.2.2.1 RWS N zc.2.2.2.2.2.2.2.1 vs raw wish t dn M:=⟨_,fun hq1=>by
 intro hd hu hA st hsz X T hR hvs h128 hv hF hw h
 obtain ⟨L',hL'⟩:∃ L':Addr,L'=s.heap.objs.size:=⟨_,rfl⟩
 refine wpAny_call ?_
 walk_at "en"
 intro ha1 F hk
 rw [<- hL'] at F ⊢
 revert hd hu hA st hsz X T hR hvs h128 hv hF hw h hL' F hk
 revert L' ha1
 exact eP2 hq1⟩
namespace c1
def z:=ep (U2 yVN.1) ⟨(0,default)⟩
def L':=z.1
def ha1:=z.2
def yYe:Σ' R:Addr->Heap->Heap->Nat->(Str->Option Value)->Heap->Nat->Tok->Tok->Tok->Addr->Nat->Heap->Nat->(Str->Option Value)->Tok->Obj->(List (Addr×Obj))->Nat->Prop,U19 R (ep (U19 R) ⟨(0,default,default,0,fun O=>none,default,0,0,0,0,0,0,default,0,fun O=>none,0,default,[],0)⟩)->yVN.1 L' ha1:=⟨_,fun hq2=>by
 intro hd hu hA st hsz X T hR hvs h128 hv hF hw h hL' F hk
 have N0:News b L' ha1 []:=News.nil
 (try k_fold)
 walk_at "rE"
 rename_i CH h2 _ h3 F3 N3
 obtain ⟨m3,F3,e_r,e_w,e_l,e_c⟩:∃ m3,A5 (Fr b L' h3 m3) (m3 (Str.ofString "raws")=some (.ref RWS)) (m3 (Str.ofString "wish")=some (.int wish t)) (m3 (Str.ofString "largest")=some (.bool dn)) (m3 (Str.ofString "chosen")=some (.ref CH)):=⟨_,F3,rfl,rfl,rfl,rfl⟩
 have hsz:vs.toArray.size=N:=by simp [hvs]
 refine wpAny_For ?_
 walk_at "rE"
 refine Calls.call_len_list (qW (F3.keep _ _ hR)) (by rw [hsz];lia) ?_
 rw [hsz]
 walk_at "rE"
 rename_i h4 tk4 t1 u1 v1 hr F4 N4 k4
 dsimp only at hr
 refine yWo (s:=s) (J:=ChJ (scR dn M raw 0) N wish.toNat RWS CH wish t dn) hA F4 N4 ⟨[],0,rfl,rfl,(fun i q hq=>nomatch hq),e_r,e_w,e_l,e_c⟩ hr (by lia) ?_ ?_
 ·clear hr F4 N4 k4 e_r e_w e_l e_c F3
  intro I k h tk m news ti o hk2 hJ F N1 ho off
  obtain ⟨rs,c,rfl,hlen,hM,e_r,e_w,e_l,e_c⟩:=hJ
  rename_i zi1_1 zi1_2 zi1_3 zi1_4 zi1_5 zi1_6
  revert hd hu hA st zi1_1 X T hR hvs h128 hv hF hw zi1_2 hL' hk zi1_3 zi1_4 zi1_6 hsz hk2 F ho hlen hM e_r e_w e_l e_c N1 off
  revert CH h2 h3 zi1_5 m3 h4 tk4 t1 u1 v1 I k h tk m ti o rs c
  exact eP19 hq2
 ·intro h' tk m news hJ F N1
  obtain ⟨rs,c,rfl,hlen,hM,_⟩:=hJ
  clear hr F4 N4 k4
  obtain ⟨C,hC⟩:∃ C,C=(List.range N).filter fun k=>decide (ahd (scR dn M raw 0) N k < wish.toNat):=⟨_,rfl⟩
  have hbest:=yAL (sc:=scR dn M raw 0) (N:=N) (w:=wish.toNat)
  have hle:rs.length<=N:=by rw [hlen];exact qZ (List.length_filter_le _ _) (qD length_range)
  rw [<- hC] at hbest hlen hM
  rw [<- hlen] at hbest
  have hrs:rs.map (fun q:Addr×Obj=>Value.ref q.1)=(List.range rs.length).map fun k=>Value.ref (rs.getD k default).1:=by
   refine ext_getElem (by simp) fun i a b=>?_
   have hi:i < rs.length:=by simpa using a
   simp [hi]
  obtain ⟨f,hf⟩:=yZZ (N:=rs.length) (eT:=fun k=>.ref (rs.getD k default).1) (a:=fun k=>(ahd (scR dn M raw 0) N (C.getD k 0):Nat)) (b:=fun k=>(C.getD k 0:Nat)) (tps:=rs) fun k hk=>by
   obtain ⟨t1,t2,e⟩:=hM k rs[k] (qT hk)
   refine ⟨_,t1,t2,rfl,?_⟩
   rw [qR,qT hk,Option.getD_some]
   have:=wK hk
   rw [show rs[k]=(rs[k].1,rs[k].2) from rfl,e] at this
   exact this
  have nm:=(N1 _ (.head _)).1
  walk_at "rE"
  refine src_list (L:=L') (m:=m) (B:=b) (n:=rs.length) (V:=fun j v=>v=.ref (f ((ordD (fun i=>- (ahd (scR dn M raw 0) N (C.getD i 0):Int)) rs.length).getD j 0)).1) (news:=(CH,listOf (rs.map fun q:Addr×Obj=>Value.ref q.1).toArray c)::rs) (cl:=[]) (Nm:=NmP "ahead" "k" (fun j=>.int (ahd (scR dn M raw 0) N (C.getD ((ordD (fun i=>- (ahd (scR dn M raw 0) N (C.getD i 0):Int)) rs.length).getD j 0) 0):Nat) (f ((ordD (fun i=>- (ahd (scR dn M raw 0) N (C.getD i 0):Int)) rs.length).getD j 0)).2.1) (fun j=>.int (C.getD ((ordD (fun i=>- (ahd (scR dn M raw 0) N (C.getD i 0):Int)) rs.length).getD j 0) 0:Nat) (f ((ordD (fun i=>- (ahd (scR dn M raw 0) N (C.getD i 0):Int)) rs.length).getD j 0)).2.2)) (fun O=>true) (fun j y nw=>(∃ t,y=.int (C.getD ((ordD (fun i=>- (ahd (scR dn M raw 0) N (C.getD i 0):Int)) rs.length).getD j 0) 0:Nat) t)/\nw=[]) (by with_unfolding_all rfl) (by decide +kernel) (by decide +kernel) (by intro _;rfl) (by lia) (by rfl) ?_ (stores_tup hA (by rfl) (by rfl) (by rfl) (by decide) fun j hj=>⟨_,0,rfl,.tail _ (hf _ (ordD_getD hj)).2⟩) yQo ?_ ?_
  ·show wpAny _ _ _ _ _ _
   walk_at "rE"
   rw [hrs] at nm
   refine yJM (N:=rs.length) (n:=2) (z:=fun k=>[(ahd (scR dn M raw 0) N (C.getD k 0):Int),(C.getD k 0:Int)]) (S:=fun k=>(ahd (scR dn M raw 0) N (C.getD k 0):Int)) nm (by lia) (by decide) (fun k hk=>?_) (fun i j hi hj=>?_) ?_
   ·obtain ⟨q1,q2⟩:=hf k hk
    exact ⟨⟨(f k).1,_,[_,_],q1,(N1 _ (.tail _ q2)).1,.cons _ _ (.cons _ _ .nil)⟩,rfl⟩
   ·exact yDx (a:=fun k=>(ahd (scR dn M raw 0) N (C.getD k 0):Int)) (by rw [hC];exact List.pairwise_lt_range.filter _) (by rw [<- hlen];exact hi) (by rw [<- hlen];exact hj)
   intro R h5 tk5 c5 st5 nR gR
   rw [yYP (ordD_len _),yBx (f:=fun j=>(f ((ordD (fun i=>- (ahd (scR dn M raw 0) N (C.getD i 0):Int)) rs.length).getD j 0)).1) fun j hj=>(hf _ (ordD_getD hj)).1] at gR
   exact made_list hA (.inr ⟨_,_,_,rfl,fun j=>⟨_,rfl⟩⟩) (fr_keeps F st5) (news_keeps N1 st5) gR
  ·intro j h ma3 tk E' C' hj _ hn hnm hG
   exact load_c (by rfl) (by rfl) hn hnm.2 (yZN.of rfl (fun _ _ e=>e) ⟨⟨_,rfl⟩,rfl⟩)
  ·intro D2 h10 tk10 rs2 hr hm
   obtain ⟨r1,r2,r3⟩:=hr.plain (f:=fun j y=>∃ t,y=.int (C.getD ((ordD (fun i=>- (ahd (scR dn M raw 0) N (C.getD i 0):Int)) rs.length).getD j 0) 0:Nat) t) fun j y nw q=>q
   obtain ⟨F10,⟨c10,N10⟩,_⟩:=hm
   have z:=N10 _ (.head _)
   rw [yQt] at r2 r3
   walk_at "rE"
   rw [length_range] at r2
   refine h D2 h10 _ c10 _ F10.keep z.2.2 z.1 ?_
   rw [<- hbest,List.map_map]
   refine ints_of (by rw [r2,length_map,ordD_len]) fun i v hv=>?_
   have hi:=(List.getElem?_eq_some_iff.mp hv).1
   rw [r2] at hi
   obtain ⟨t,e⟩:=r3 i v hv
   refine ⟨t,e.trans ?_⟩
   simp [hi,ordD_len]⟩
namespace c2
def z:=ep (U19 yYe.1) ⟨(0,default,default,0,fun O=>none,default,0,0,0,0,0,0,default,0,fun O=>none,0,default,[],0)⟩
def CH:=z.1
def t1:=z.2.2.2.2.2.2.2.1
def y1:=z.2.2.2.2.2.2.2.2
def I:=y1.2.2.1
def k:=y1.2.2.2.1
def h:=y1.2.2.2.2.1
def tk:=y1.2.2.2.2.2.1
def y2:=y1.2.2.2.2.2.2.2.2
def o:=y2.1
def rs:=y2.2.1
def c:=y2.2.2
def yDq:Σ' R:Heap->Nat->Heap->(Str->Option Value)->Heap->Nat->Tok->Tok->Tok->Addr->Nat->Heap->Nat->(Str->Option Value)->Tok->Obj->Tok->Tok->Prop,U18 R (ep (U18 R) ⟨(default,0,default,fun O=>none,default,0,0,0,0,0,0,default,0,fun O=>none,0,default,0,0)⟩)->yYe.1 CH z.2.1 z.2.2.1 z.2.2.2.1 z.2.2.2.2.1 z.2.2.2.2.2.1 z.2.2.2.2.2.2.1 t1 y1.1 y1.2.1 I k h tk y1.2.2.2.2.2.2.1 y1.2.2.2.2.2.2.2.1 o rs c:=⟨_,fun hq3=>by
 intro hd hu hA st zi1_1 X T hR hvs h128 hv hF hw zi1_2 hL' hk zi1_3 zi1_4 zi1_6 hsz hk2 F ho hlen hM e_r e_w e_l e_c N1 off
 walk_at "rE"
 rename_i h6 F6 N6
 obtain ⟨m6,F6,f_r,f_w,f_l,f_c,f_k,f_a⟩:∃ m6,A7 (Fr b L' h6 m6) (m6 (Str.ofString "raws")=some (.ref RWS)) (m6 (Str.ofString "wish")=some (.int wish t)) (m6 (Str.ofString "largest")=some (.bool dn)) (m6 (Str.ofString "chosen")=some (.ref CH)) (∃ t,m6 (Str.ofString "k")=some (.int (k:Int) t)) (∃ t,m6 (Str.ofString "ahead")=some (.int 0 t)):=⟨_,F6,e_r,e_w,e_l,e_c,⟨_,rfl⟩,⟨_,rfl⟩⟩
 clear e_r e_w e_l e_c
 refine wpAny_For ?_
 walk_at "rE"
 refine Calls.call_len_list (qW (F6.keep _ _ hR)) (by rw [hsz];lia) ?_
 rw [hsz]
 walk_at "rE"
 rename_i h7 tk7 t2 u2 v2 hr2 F7 N7 k7
 dsimp only at hr2
 have gv:∀ i:Nat,i < N->vs.toArray[((i:Int)).toNat]?=some (vs.getD i .none):=fun i hi=>by simp [qR,show i < vs.length from by rw [hvs];exact hi]
 refine yWo (s:=s) (J:=InJ (scR dn M raw 0) RWS CH wish t dn k ((I,o)::(CH,listOf (rs.map fun q:Addr×Obj=>Value.ref q.1).toArray c)::rs)) hA F7 N7 ⟨rfl,f_r,f_w,f_l,f_c,f_k,f_a⟩ hr2 (by lia) ?_ ?_
 ·clear hr2 F7 N7 k7 f_r f_w f_l f_c f_k f_a
  intro I2 j h tk m2 news2 tj o2 hj hJ2 F N2 ho2 off2
  obtain ⟨rfl,e_r,e_w,e_l,e_c,⟨t1,e_k⟩,⟨ta,e_a⟩⟩:=hJ2
  rename_i zi2_1 zi2_2 zi2_3 zi2_4
  revert hd hu hA st zi1_1 X T hR hvs h128 hv hF hw zi1_2 hL' hk zi1_3 hsz hk2 ho hlen hM off F6 zi2_3 zi2_4 gv hj F ho2 e_r e_w e_l e_c N2 off2 e_k e_a
  revert zi2_1 zi2_2 h6 m6 h7 tk7 t2 u2 v2 I2 j h tk m2 tj o2 t1 ta
  exact eP18 hq3
 ·intro h tk m2 news2 hJ2 F2 N2
  obtain ⟨rfl,e_r,e_w,e_l,e_c,⟨t1,e_k⟩,⟨ta,e_a⟩⟩:=hJ2
  have offC:∀ q∈rs,q.1≠CH:=fun q hq z=>by
   have g:=(N2 _ (.tail _ (.head _))).1
   have g2:=(N2 q (.tail _ (.tail _ hq))).1
   obtain ⟨i,hi,rfl⟩:=getElem_of_mem hq
   obtain ⟨_,_,e⟩:=hM i rs[i] (qT hi)
   dsimp only at g
   rw [z,g,e] at g2
   have:=wE Obj.cls (wD g2);simp [W.listOf] at this
  have hle:rs.length<=k:=by rw [hlen];exact qZ (List.length_filter_le _ _) (qD length_range)
  walk_at "rE"
  refine cmp_ofLt (rich_lt_int ?_)
  walk_at "rE"
  ·rename_i hlt D h8 F8 N8 l8
   refine wpAny_list_append_plain ⟨_,(N8 _ (.tail _ (.tail _ (.head _)))).1⟩ (fun h9 l9 s9=>?_) (hsz:=by rw [size_toArray,length_map,sizeLine_eq];lia)
   obtain ⟨c9,l9⟩:=l9
   have F9:=fr_change F8 N8 (.tail _ (.tail _ (.head _))) s9
   have N9:=yBT N8 (ne_of_gt l8.2.1) (off _ (.head _)) offC s9 l9
   have hap:ahd (scR dn M raw 0) N k < wish.toNat:=by unfold ahd;exact Int.lt_toNat.mpr (by assumption)
   obtain ⟨q1,q2⟩:=yBS (x:=(D,{ cls:=.type "tuple",data:=.seq #[.int (((List.range N).filter fun q=>bt (scR dn M raw 0) q k).length:Nat) ta,.int (k:Int) t1] })) hlen hM hap ⟨_,_,rfl⟩
   walk_at "rE"
   refine ⟨h9,_,_,_,o,rfl,?_,F9,N9,ho,fun q hq=>?_⟩
   ·exact ⟨_,c9,rfl,q1,q2,e_r,e_w,e_l,e_c⟩
   rcases qG.mp hq with rfl | hq
   ·have z:=off _ (.head _)
    exact z
   rcases qF.mp hq with hq | hq
   ·exact off q (.tail _ hq)
   ·rw [qC.mp hq];exact ne_of_gt l8.1
  ·have hap:¬ ahd (scR dn M raw 0) N k < wish.toNat:=by unfold ahd;exact fun z=>absurd (Int.lt_toNat.mp z) (by assumption)
   refine ⟨h,_,_,_,o,rfl,?_,F2,N2,ho,off⟩
   refine ⟨rs,c,rfl,?_,?_,e_r,e_w,e_l,e_c⟩
   ·rw [yWV,qM (by simpa using hap),append_nil];exact hlen
   ·rw [yWV,qM (by simpa using hap),append_nil];exact hM⟩
namespace c3
def z:=ep (U18 yDq.1) ⟨(default,0,default,fun O=>none,default,0,0,0,0,0,0,default,0,fun O=>none,0,default,0,0)⟩
def y1:=z.2.2.2.2.2.2.2.2
def j:=y1.2.2.1
def o2:=y1.2.2.2.2.2.2.2.1
def y2:=y1.2.2.2.2.2.2.2.2
def ta:=y2.2
theorem tq:yDq.1 z.1 z.2.1 z.2.2.1 z.2.2.2.1 z.2.2.2.2.1 z.2.2.2.2.2.1 z.2.2.2.2.2.2.1 z.2.2.2.2.2.2.2.1 y1.1 y1.2.1 j y1.2.2.2.1 y1.2.2.2.2.1 y1.2.2.2.2.2.1 y1.2.2.2.2.2.2.1 o2 y2.1 ta:=by
 intro hd hu hA st zi1_1 X T hR hvs h128 hv hF hw zi1_2 hL' hk zi1_3 hsz hk2 ho hlen hM off F6 zi2_3 zi2_4 gv hj F ho2 e_r e_w e_l e_c N2 off2 e_k e_a
 have ht:(raw j).t=(raw k).t:=hF.same hj hk2
 walk_at "rE"
 rename_i h8 F8 N8
 refine qL (Q:=fun v s'=>v=.bool (if dn=true then decide ((raw k).z < (raw j).z) else decide ((raw j).z < (raw k).z))/\∃ tk',s'={s with heap:=h8,toks:=tk'}) ?_ ?_ fun _ _ e=>e
 ·walk_at "rD"
  ·refine yQf (F8.keep _ _ hR) (vM _) (ltJ hk2 h128) (gv k hk2) ?_
   walk_at "rD"
   refine yQf (F8.keep _ _ hR) (vM _) (ltJ hj h128) (gv j hj) ?_
   walk_at "rD"
   refine cmp_ofLt (rich_lt_same (hv k hk2) (hv j hj) ht.symm ?_)
   exact ⟨by rw [qN (show dn=true by assumption)],_,rfl⟩
  ·refine yQf (F8.keep _ _ hR) (vM _) (ltJ hj h128) (gv j hj) ?_
   walk_at "rD"
   refine yQf (F8.keep _ _ hR) (vM _) (ltJ hk2 h128) (gv k hk2) ?_
   walk_at "rD"
   refine cmp_ofLt (rich_lt_same (hv j hj) (hv k hk2) ht ?_)
   exact ⟨by rw [show dn=false by assumption];rfl,_,rfl⟩
 rintro v s' ⟨rfl,tk',rfl⟩
 walk_at "rE"
 rename_i h9 F9 N9
 have hbt:=yCS (dn:=dn) (M:=M) ht
 generalize (if dn=true then decide ((raw k).z < (raw j).z) else decide ((raw j).z < (raw k).z))=less at hbt F9 ⊢
 refine qL (Q:=fun v s'=>v=bt (scR dn M raw 0) j k/\∃ tk',s'={s with heap:=h9,toks:=tk'}) ?_ ?_ fun _ _ e=>e
 ·walk_at "rD"
  ·rw [hbt,show less=true by assumption];rfl
  refine yQf (F9.keep _ _ hR) (vM _) (ltJ hj h128) (gv j hj) ?_
  walk_at "rD"
  refine yQf (F9.keep _ _ hR) (vM _) (ltJ hk2 h128) (gv k hk2) ?_
  walk_at "rD"
  refine yBP (hv j hj) (hv k hk2) ht ?_
  walk_at "rD"
  ·refine cmp_ofLt (rich_lt_int ?_)
   walk_at "rD"
   all_goals (rw [hbt,show less=false by assumption,decide_eq_true (show (raw j).z=(raw k).z by assumption)])
   ·exact (decide_eq_true (Int.ofNat_lt.mp (by assumption))).symm
   ·exact (decide_eq_false fun z=>absurd (Int.ofNat_lt.mpr z) (by assumption)).symm
  ·rw [hbt,show less=false by assumption,decide_eq_false (show ¬ (raw j).z=(raw k).z by assumption)];rfl
 rintro v s' ⟨rfl,tk',rfl⟩
 cases hb:bt (scR dn M raw 0) j k with
 | true=>
  walk_at "rE"
  refine wpAny_loadName_local (by rfl) (by rfl) F9.ns (v:=.int _ ta) (by exact e_a) ?_
  walk_at "rE"
  rename_i h10 F10 N10
  refine ⟨h10,_,_,_,o2,rfl,?_,F10,N10,ho2,off2⟩
  exact ⟨rfl,e_r,e_w,e_l,e_c,⟨_,e_k⟩,⟨_,by rw [yZB,qN hb];rfl⟩⟩
 | false=>
  walk_at "rE"
  refine ⟨h9,_,_,_,o2,rfl,?_,F9,N9,ho2,off2⟩
  exact ⟨rfl,e_r,e_w,e_l,e_c,⟨_,e_k⟩,⟨_,by rw [yZB,qM (by rw [hb];decide)];exact e_a⟩⟩
end c3
theorem tq:yYe.1 CH z.2.1 z.2.2.1 z.2.2.2.1 z.2.2.2.2.1 z.2.2.2.2.2.1 z.2.2.2.2.2.2.1 t1 y1.1 y1.2.1 I k h tk y1.2.2.2.2.2.2.1 y1.2.2.2.2.2.2.2.1 o rs c:=yDq.2 c3.tq
end c2
theorem tq:yVN.1 L' ha1:=yYe.2 c2.tq
end c1
theorem zh:zP A s b Q zc.2.2.2.2.1 RWS N zc.2.2.2.2.2.2.2.1 vs raw wish t dn M:=yVN.2 c1.tq
end K_law_best
theorem yXs {A s b Q E RWS N cR vs raw wish t dn M}:K_law_best.zP A s b Q E RWS N cR vs raw wish t dn M:=eps (P:=U14 K_law_best.zP) K_law_best.zh (A,s,b,Q,E,RWS,N,cR,vs,raw,wish,t,dn,M)
def SpT (dn:Bool) (M:Int) (raw:Nat->Rw) (N:Nat) (wish:Int) (r:Nat) (ord:List Nat):Prop:=(wish < 1/\r=0/\ord=[])\/A4 (1<=wish) (Fst raw N) (r=N) (ord=(ordD (scR dn M raw 0) N).take wish.toNat)
def SpV (raw:Nat->Rw) (N:Nat) (wish:Int) (r j:Nat):Prop:=A6 (1<=wish) (r=j+1) (j < N) (raw j=.thorn) (∀ i,i < j->raw i≠.thorn) (Fst raw j\/(j:Int) < wish)
def SpK (dn:Bool) (M:Int) (raw:Nat->Rw) (N:Nat) (wish:Int) (r:Nat) (ws:List Str):Prop:=A5 (1<=wish) (r=min N wish.toNat) (∀ i,i < r->raw i≠.thorn) (∃ o,o < r/\(raw o).t≠(raw 0).t) (∀ m,WdK (RG raw r) m->m∈ws)\/X2 fun j q=>A8 (1<=wish) (r=j+1) (j < N) (wish<=j) (Fst raw j) (raw j≠.thorn/\(raw j).t≠(raw 0).t) (q=(ordD (scR dn M raw 0) j).getD (wish.toNat - 1) 0) (ws=[wdT dn wish raw j q])
noncomputable def odP (raw:Nat->Rw) (k:Nat):Bool:=(match raw k with | .thorn=>false | _=>true) && ((raw k).t != (raw 0).t)
theorem yWM {raw:Nat->Rw} {k:Nat}:odP raw k=true↔raw k≠.thorn/\(raw k).t≠(raw 0).t:=by
 unfold odP
 cases raw k<;>simp
section
variable {dn:Bool} {M wish:Int} {raw:Nat->Rw} {N th:Nat}
theorem yWr {o:Nat} {l:List Nat} (h:(List.range N).filter (odP raw)=o::l):A4 (o < N) (raw o≠.thorn) ((raw o).t≠(raw 0).t) (∀ i,i < o->raw i≠.thorn->(raw i).t=(raw 0).t):=by
 have hm:o∈(List.range N).filter (odP raw):=by rw [h];exact .head _
 obtain ⟨h1,h2⟩:=List.mem_filter.mp hm
 have h2:=yWM.mp h2
 refine ⟨mem_range.mp h1,h2.1,h2.2,fun i hi hn=>?_⟩
 refine Classical.byContradiction fun ht=>?_
 have hi':i∈(List.range N).filter (odP raw):=List.mem_filter.mpr ⟨mem_range.mpr (vV hi (mem_range.mp h1)),yWM.mpr ⟨hn,ht⟩⟩
 have pw:((List.range N).filter (odP raw)).Pairwise (· < ·):=List.pairwise_lt_range.filter _
 rw [h] at hi' pw
 rcases qG.mp hi' with e | hi'
 ·rw [e] at hi;exact lt_irrefl _ hi
 ·exact absurd ((pairwise_cons.mp pw).1 i hi') (vX.mpr (wM hi))
theorem yXq (h:(List.range N).filter (odP raw)=[]):∀ i,i < N->raw i≠.thorn->(raw i).t=(raw 0).t:=fun i hi hn=>Classical.byContradiction fun ht=>by
 have:i∈(List.range N).filter (odP raw):=List.mem_filter.mpr ⟨mem_range.mpr hi,yWM.mpr ⟨hn,ht⟩⟩
 rw [h] at this;cases this
noncomputable def untilP (N:Nat) (wish:Int):List Nat->Int
 | []=>N
 | o::_=>min (N:Int) (max wish ((o:Int)+1))
theorem cmin (N W:Nat):((min N W:Nat):Int)=min (N:Int) W:=by
 rcases Nat.le_total N W with h | h
 ·rw [min_eq_left h,Int.min_eq_left (Int.ofNat_le.mpr h)]
 ·rw [min_eq_right h,Int.min_eq_right (Int.ofNat_le.mpr h)]
theorem yWG (hw:1<=wish) (h1:th=N\/(th < N/\raw th=.thorn)) (h2:∀ i,i < th->raw i≠.thorn) (h:(th:Int) < untilP N wish ((List.range N).filter (odP raw))):SpV raw N wish (th+1) th:=by
 cases e:(List.range N).filter (odP raw) with
 | nil=>
  rw [e] at h
  have h:(th:Int) < N:=h
  have hth:th < N:=Int.ofNat_lt.mp h
  refine ⟨hw,rfl,hth,(h1.resolve_left (vB hth)).2,h2,.inl fun i hi=>⟨h2 i hi,yXq e i (vV hi hth) (h2 i hi)⟩⟩
 | cons o l=>
  rw [e] at h
  have h:(th:Int) < min (N:Int) (max wish ((o:Int)+1)):=h
  obtain ⟨o1,o2,o3,o4⟩:=yWr e
  have hth:th < N:=Int.ofNat_lt.mp (Int.lt_of_lt_of_le h (Int.min_le_left _ _))
  have ht:=(h1.resolve_left (vB hth)).2
  refine ⟨hw,rfl,hth,ht,h2,?_⟩
  by_cases hc:(th:Int) < wish
  ·exact .inr hc
  ·have hto:th < o:=qQ (qO fun z=>absurd (Int.lt_of_lt_of_le h (Int.min_le_right _ _)) (Int.not_lt.mpr (Int.max_le.mpr ⟨Int.not_lt.mp hc,Int.ofNat_le.mpr z⟩))) fun z=>o2 (by rw [<- z];exact ht)
   exact .inl fun i hi=>⟨h2 i hi,o4 i (vV hi hto) (h2 i hi)⟩
theorem yXC (h2:∀ i,i < th->raw i≠.thorn) (e:(List.range N).filter (odP raw)=[]) (h:¬ (th:Int) < untilP N wish ((List.range N).filter (odP raw))):Fst raw N:=fun i hi=>by
 rw [e] at h
 have h:¬ (th:Int) < N:=h
 have hn:=h2 i (qP hi (Int.ofNat_le.mp (Int.not_lt.mp h)))
 exact ⟨hn,yXq e i hi hn⟩
theorem yYj {o:Nat} {l:List Nat} (hw:1<=wish) (h2:∀ i,i < th->raw i≠.thorn) (e:(List.range N).filter (odP raw)=o::l) (h:¬ (th:Int) < untilP N wish ((List.range N).filter (odP raw))):A4 (o < N) (raw o≠.thorn/\(raw o).t≠(raw 0).t) ((o:Int) < wish->A3 (untilP N wish (o::l)=((min N wish.toNat:Nat):Int)) (o < min N wish.toNat) (∀ i,i < min N wish.toNat->raw i≠.thorn)) (¬ (o:Int) < wish->A3 (untilP N wish (o::l)=((o+1:Nat):Int)) (wish<=o) (Fst raw o)):=by
 rw [e] at h
 obtain ⟨o1,o2,o3,o4⟩:=yWr e
 obtain ⟨W,rfl⟩:=Int.eq_ofNat_of_zero_le (Int.le_trans (by decide) hw)
 refine ⟨o1,⟨o2,o3⟩,fun hc=>?_,fun hc=>?_⟩
 ·have u:untilP N W (o::l)=((min N W:Nat):Int):=(wE (min (N:Int)) (Int.max_eq_left hc)).trans (cmin N W).symm
  rw [u] at h
  exact ⟨u,Nat.lt_min.mpr ⟨o1,Int.ofNat_lt.mp hc⟩,fun i hi=>h2 i (qP hi (qO fun z=>h (Int.ofNat_lt.mpr z)))⟩
 ·have hc:=Int.not_lt.mp hc
  have u:untilP N W (o::l)=((o+1:Nat):Int):=(wE (min (N:Int)) (Int.max_eq_right (Int.le_trans hc (Int.le_of_lt (Int.lt_succ _))))).trans (Int.min_eq_right (Int.ofNat_le.mpr o1))
  rw [u] at h
  refine ⟨u,hc,fun i hi=>?_⟩
  have hn:=h2 i (qP hi (Nat.le_of_succ_le (qO fun z=>h (Int.ofNat_lt.mpr z))))
  exact ⟨hn,o4 i hi hn⟩
end
def yDk (b:Heap) (dn:Bool) (M:Int) (raw:Nat->Rw) (N:Nat) (wish:Int) (h':Heap) (D:Addr):Prop:=
 X8 fun r kd t1 t2 R c mm vals=>A4 (h'.get? D=some { cls:=.type "tuple",data:=.seq #[.int ((r:Nat):Int) t1,.str (Str.ofString kd) t2,.ref R] mm }) (h'.get? R=some (listOf (List.toArray vals) c)) (b.get? R=none)
  ((kd="told"/\∃ ord:List Nat,IntsAre vals (ord.map fun k:Nat=>(k:Int))/\SpT dn M raw N wish r ord)\/(kd="thorn"/\∃ j,StrsAre vals [thW j]/\SpV raw N wish r j)\/(kd="kinds"/\∃ ws,StrsAre vals ws/\SpK dn M raw N wish r ws))
noncomputable def thB (raw:Nat->Rw) (k:Nat):Bool:=match raw k with | .thorn=>true | _=>false
theorem yJx {raw:Nat->Rw} {k:Nat}:thB raw k=true↔raw k=.thorn:=by unfold thB;cases raw k<;>simp
noncomputable def yZp:Stmt:=(PySem.Challenge.rw_dp0046_01.prog.main.body.reverse).getD 2 (.Pass ⟨0,0,0,0⟩)
noncomputable def yQR:List Stmt:=stB yZp
noncomputable def yAD:Scope:=stS yZp
noncomputable abbrev envD (L:Addr):Env:=envOfC (Str.ofString "_law_due") yAD L 120 (.ref 119)
theorem yYN {raw:Nat->Rw} {N:Nat} {Mn:Int} (h1:Mn∈((List.range N).filter (thB raw)).map (fun k:Nat=>(k:Int))++[(N:Int)]) (h2:∀ a,a∈((List.range N).filter (thB raw)).map (fun k:Nat=>(k:Int))++[(N:Int)]->Mn<=a):∃ th:Nat,A3 (Mn=(th:Int)) (th=N\/(th < N/\raw th=.thorn)) (∀ i,i < th->raw i≠.thorn):=by
 have hle:=h2 N (qF.mpr (.inr (.head _)))
 have key:∀ th:Nat,Mn=(th:Int)->∀ i,i < th->raw i≠.thorn:=fun th e i hi z=>by
  have hN:i < N:=qP hi (Int.ofNat_le.1 (e ▸ hle))
  have:=h2 i (qF.mpr (.inl (wB.mpr ⟨i,List.mem_filter.mpr ⟨mem_range.mpr hN,yJx.mpr z⟩,rfl⟩)))
  exact absurd (Int.ofNat_le.1 (e ▸ this)) (Nat.not_le.2 hi)
 rcases qF.mp h1 with h | h
 ·obtain ⟨k,hk,e⟩:=wB.mp h
  obtain ⟨k1,k2⟩:=List.mem_filter.mp hk
  exact ⟨k,e.symm,.inr ⟨mem_range.mp k1,yJx.mp k2⟩,key k e.symm⟩
 ·have e:=qC.mp h
  exact ⟨N,e,.inl rfl,key N e⟩
noncomputable def yXx:List Stmt:=stB (yQR.getD 7 (.Pass ⟨0,0,0,0⟩))
noncomputable def nmL (raw:Nat->Rw) (r:Nat):List Nat:=(List.range r).filter fun k=>!(raw k).t
theorem yAo {raw:Nat->Rw} {r:Nat} (m:Str) (h:WdK (RG raw r) m):m∈(nmL raw r).map (fun k=>wds "<" "str" (raw k).kd)++(nmL raw r).map (fun k=>wds "<" (raw k).kd "str"):=by
 obtain ⟨a,b,⟨i,hi,rfl⟩,⟨j,hj,rfl⟩,ht,rfl⟩:=h
 have kt:∀ {r:Rw},r.t=true->r.kd="str":=fun {r} h=>by cases r<;>first | rfl | cases h
 cases hti:(raw i).t with
 | true=>
  have htj:(raw j).t=false:=by cases z:(raw j).t with | false=>rfl | true=>rw [hti,z] at ht;exact absurd rfl ht
  rw [kt hti]
  exact qF.mpr (.inl (wB.mpr ⟨j,List.mem_filter.mpr ⟨mem_range.mpr hj,by rw [htj];rfl⟩,rfl⟩))
 | false=>
  have htj:(raw j).t=true:=by cases z:(raw j).t with | true=>rfl | false=>rw [hti,z] at ht;exact absurd rfl ht
  rw [kt htj]
  exact qF.mpr (.inr (wB.mpr ⟨i,List.mem_filter.mpr ⟨mem_range.mpr hi,by rw [hti];rfl⟩,rfl⟩))
theorem yWQ {A:Around} {E:VS} {s:Shared} {v:Value} {r:Rw} {Q:VS} (hv:IsR v r) (h:∀ tk,Q (.bool r.t) { s with toks:=tk }):wpAny (model prog w) A (call (.builtin "isinstance") [v,.type "str"]) Q E s:=by
 rcases hv with ⟨rfl,rfl⟩ | hv
 ·walk1
  exact h _
 ·cases r
  ·obtain ⟨t,rfl⟩:=hv
   walk1
   exact h _
  ·cases hv
   walk1
   exact h _
  ·obtain ⟨_,t,rfl⟩:=hv
   walk1
   exact h _
  ·exact hv.elim
local macro_rules | `(tactic| walk_at "eval Name")=>`(tactic| k_here;(with_reducible show wpAny _ _ (eval (.Name ..) (compEnvC ..)) ..);first | refine yQD (by rfl) (by rfl) (by rfl) (by assumption) (by assumption) ?_ | refine load_c (by rfl) (by rfl) (by assumption) (by assumption) ?_ | refine comp_B (by assumption) (by assumption) (by assumption) (by k_is) (by boot_fast) (by decide) ?_ (by rfl) (by rfl) (by rfl) (by rfl) (by decide) | refine comp_K (by assumption) (by assumption) (by assumption) (by k_is) ?_ (by rfl) (by rfl) (by rfl) (by decide))
theorem kd_len (r:Rw):(Str.ofString r.kd).length<=10:=by
 cases r
 ·show (Str.ofString "int").length<=10;decide +kernel
 ·show (Str.ofString "bool").length<=10;decide +kernel
 ·show (Str.ofString "str").length<=10;decide +kernel
 ·show (Str.ofString "int").length<=10;decide +kernel
theorem strs_of:∀ {l:List Value} {zs:List Str},l.length=zs.length->(∀ i v,l[i]?=some v->∃ t,v=Value.str (zs.getD i default) t)->StrsAre l zs
 | [],[],_,_=>.nil
 | v::l,z::zs,h,k=>by
  obtain ⟨t,rfl⟩:=k 0 v rfl
  exact .cons _ _ (strs_of (Nat.succ.inj h) fun i v hv=>k (i+1) v hv)
theorem yXj {f:Nat->Str} {C:List Nat} {us:List Value} (h:us.length=(List.range C.length).length) (k:∀ (i:Nat) (v:Value),us[i]?=some v->∃ t,v=Value.str (f (C.getD ((List.range C.length).getD i 0) 0)) t):StrsAre us (C.map f):=strs_of (by rw [h,length_range,length_map]) fun i v hv=>by
 obtain ⟨t,e⟩:=k i v hv
 have hi:=(List.getElem?_eq_some_iff.mp hv).1
 rw [h,length_range] at hi
 exact ⟨t,by rw [e];simp [qR,hi]⟩
theorem yAb {vs:List Value} {r:Nat} (h:r<=vs.length):vs.take r=(List.range r).map fun p=>vs.getD p .none:=by
 refine ext_getElem (by simp [h]) fun i a b=>?_
 have hi:i < r:=by simpa using b
 simp [qR,show i < vs.length from qP hi h]
theorem yJN {vs:List Value}:vs=(List.range vs.length).map fun p=>vs.getD p .none:=by
 refine ext_getElem (by simp) fun i a b=>?_
 simp [a]
namespace K_due_n
def zP (A:Around) (s:Shared) (b:Heap) (E:VS) (RWS L:Addr) (N cR r:Nat) (vs:List Value) (raw:Nat->Rw) (m:Str->Option Value) (o1:Obj) (tu:Tok) (QF:Flow->Shared->Prop):Prop:=∀ (hd:A.depth<=497) (hu:A.units<=470) (hA:A.handled=none) (X:(hd01.heap_1 w.params).In b) (T:Top p loose yQv mg mb b) (F:Fr b L s.heap m) (N0:News b L s.heap [(L+1,o1)]) (d1:o1.data=.cell (some (.ref RWS))) (hR:b.get? RWS=some (listOf vs.toArray cR)) (hvs:vs.length=N) (h128:N < 128) (hv:∀ j,j < N->IsR (vs.getD j .none) (raw j)) (hr:r<=N) (hn:∀ i,i < r->raw i≠.thorn) (e_u:m (Str.ofString "until")=some (.int (r:Int) tu)) (h:∀ h' tk D R t1 t2 c mm vals,b.StaysIn h'->b.get? D=none->h'.get? D=some { cls:=.type "tuple",data:=.seq #[.int (r:Int) t1,.str (Str.ofString "kinds") t2,.ref R] mm }->h'.get? R=some (listOf (List.toArray vals) c)->b.get? R=none->StrsAre vals ((nmL raw r).map (fun k=>wds "<" "str" (raw k).kd)++(nmL raw r).map (fun k=>wds "<" (raw k).kd "str"))->QF (.ret (.ref D)) {s with heap:=h',toks:=tk}),
  wpAny (model prog w) A (execs yXx (envD L)) QF E s
def zc:=ep (U15 zP) ⟨({},(start default).1,default,fun O O=>True,0,0,0,0,0,[],fun O=>.thorn,fun O=>none,default,0,fun O O=>True)⟩
def zd1:=zc.2.2.2.2.2.2.2.2
def A:=zc.1
def b:=zc.2.2.1
def L:=zc.2.2.2.2.2.1
def r:=zd1.1
def vs:=zd1.2.1
def raw:=zd1.2.2.1
def m:=zd1.2.2.2.1
def o1:=zd1.2.2.2.2.1
def tu:=zd1.2.2.2.2.2.1
theorem zh:zP A zc.2.1 b zc.2.2.2.1 zc.2.2.2.2.1 L zc.2.2.2.2.2.2.1 zc.2.2.2.2.2.2.2.1 r vs raw m o1 tu zd1.2.2.2.2.2.2:=by
 intro hd hu hA X T F N0 d1 hR hvs h128 hv hr hn e_u h
 conv in yXx=>whnf
 have hrv:∀ k,k < r->IsV (vs.getD k .none) (raw k):=fun k hk=>(hv k (qP hk hr)).elim (fun z=>absurd z.2 (hn k hk)) id
 walk_at "rB"
 refine yVo (L:=L) (m:=m) (B:=b) (n:=r) (V:=fun j v=>v=vs.getD j .none) (news:=[(L+1,o1)]) (cl:=[]) (Nm:=NmV "raw" _) (fun k=>!(raw k).t) (fun j y nw=>(∃ t,y=.str (Str.ofString (raw j).kd) t)/\nw=[]) (by rfl) (by with_unfolding_all rfl) (by with_unfolding_all rfl) (by decide +kernel) (by decide +kernel) (by rfl) (by rfl) (by intro _;rfl) (jg3 [_,_] 0xf0000080dab1f10f0ab00003e8d hr h128) (by rfl) ?_ (stores_name (by rfl) (by rfl)) ?_ ?_ ?_
 ·show wpAny _ _ _ _ _ _
  walk_at "rB"
  refine kmk_slice F N0 (qW (F.keep _ _ hR)) .none (.int _ _) ?_ (by with_unfolding_all rfl) (by intro _;with_unfolding_all rfl) (by simp [sizeLine_eq];exact (jg3 [_,_] 0xf0000080dab1f10f0ab1000000d (qD hvs :) h128))
  intro SL h2 F2 N2 _
  rw [yVq,yAb (jg3 [_,_,_] 0xf21f02f1ab0 (qD (hvs).symm :) hr)] at N2
  exact made_list hA (.inl ⟨_,_,rfl⟩) F2 (fun q hq=>N2 q (.tail _ hq)) (N2 _ (.head _)).1
 ·intro j h ma3 tk E' C hj hn hnm hG
  obtain ⟨v,rfl,hv1⟩:=hnm
  have hB:=hG.1
  refine wpAny_tests_one ?_
  walk_at "rB"
  refine yWQ (hv j (qP hj hr)) fun tk2=>?_
  walk_at "rB"
  exact fun _ _ e=>e
 ·intro j h ma3 tk E' C hj hp hn hnm hG
  obtain ⟨v,rfl,hv1⟩:=hnm
  have hB:=hG.1
  have XB:=X.keeps hB
  walk_at "rB"
  refine yJn (b:=h) hd hu hA (fun _ _ q=>q) (by exact vC _) (X.keeps hB) (T.keeps hB) (hrv j hj) ?_
  intro h' tk t st
  exact yZN.of rfl st ⟨⟨t,rfl⟩,rfl⟩
 intro D h8 tk8 rs hr hm
 obtain ⟨r1,r2,r3⟩:=hr.plain (f:=fun j y=>∃ t,y=.str (Str.ofString (raw j).kd) t) fun j y nw q=>q
 obtain ⟨F8,⟨c8,N8⟩,off8⟩:=hm
 rw [r1] at N8
 obtain ⟨us,hus⟩:∃ us,us=rs.map (·.1):=⟨_,rfl⟩
 rw [<- hus] at r2 r3 N8
 have hul:us.length=(nmL raw r).length:=r2
 have hu2:∀ j,j < (nmL raw r).length->∃ t,us.getD j .none=.str (Str.ofString (raw ((nmL raw r).getD j 0)).kd) t:=fun j hj=>by
  have hj':j < us.length:=by rw [hul];exact hj
  rw [qR,qT hj',Option.getD_some]
  exact r3 j _ (qT hj')
 have hnl:(nmL raw r).length<=r:=by unfold nmL;exact qZ (List.length_filter_le _ _) (qD length_range)
 clear hr r1 r2 r3 off8 hus
 rw [yJN (vs:=us),hul] at N8
 have N8':News b L h8 [(D,listOf ((List.range (nmL raw r).length).map fun p=>us.getD p .none).toArray c8),(L+1,o1)]:=N8
 clear N8
 obtain ⟨m8,F8,e_u,e_n⟩:∃ m8,A3 (Fr b L h8 m8) (m8 (Str.ofString "until")=some (.int (r:Int) tu)) (m8 (Str.ofString "names")=some (.ref D)):=⟨_,F8,e_u,rfl⟩
 walk_at "rB"
 refine src_list (L:=L) (m:=m8) (B:=b) (n:=(nmL raw r).length) (V:=fun j v=>v=us.getD j .none) (news:=[(D,listOf ((List.range (nmL raw r).length).map fun p=>us.getD p .none).toArray c8),(L+1,o1)]) (cl:=[]) (Nm:=NmV "name" _) (fun O=>true) (fun j y nw=>(∃ t,y=.str (wds "<" "str" (raw ((nmL raw r).getD j 0)).kd) t)/\nw=[]) (by with_unfolding_all rfl) (by decide +kernel) (by decide +kernel) (by intro _;rfl) (jg4 [_,_,_] 0xf20f12f0000080dab1f0ab00003e8d h128 hr hnl) (by rfl) ?_ (stores_name (by rfl) (by rfl)) yQo ?_ ?_
 ·show wpAny _ _ _ _ _ _
  walk_at "rB"
  exact made_list hA (.inl ⟨_,_,rfl⟩) F8 N8' (N8' _ (.head _)).1
 ·intro j h ma3 tk E' C hj hp hn hnm hG
  obtain ⟨v,rfl,hv1⟩:=hnm
  have hB:=hG.1
  obtain ⟨t1,e1⟩:=hu2 j hj
  rw [e1] at hv1
  have XB:=X.keeps hB
  walk_at "rB"
  refine yQQ (b:=h) (sy:="<") (x:="str") hd hu hA (fun _ _ q=>q) (by exact vC _) (X.keeps hB) (T.keeps hB) (by decide +kernel) (by decide +kernel) (kd_len _) ?_
  intro h' tk t st
  exact yZN.of rfl st ⟨⟨t,rfl⟩,rfl⟩
 intro D1 h9 tk9 rs1 hr1 hm1
 obtain ⟨r1,r2,r3⟩:=hr1.plain (f:=fun j y=>∃ t,y=.str (wds "<" "str" (raw ((nmL raw r).getD j 0)).kd) t) fun j y nw q=>q
 obtain ⟨F9,⟨c9,N9⟩,off9⟩:=hm1
 rw [r1] at N9
 rw [yQt] at r2 r3
 have S1:=yXj (f:=fun k=>wds "<" "str" (raw k).kd) r2 r3
 generalize rs1.map (·.1)=us1 at *
 clear hr1 r1 r2 r3 off9 F8 N8'
 replace N9:News b L h9 [(D1,listOf us1.toArray c9),(D,listOf ((List.range (nmL raw r).length).map fun p=>us.getD p .none).toArray c8),(L+1,o1)]:=N9
 walk_at "rB"
 refine src_list (L:=L) (m:=m8) (B:=b) (n:=(nmL raw r).length) (V:=fun j v=>v=us.getD j .none) (news:=[(D1,listOf us1.toArray c9),(D,listOf ((List.range (nmL raw r).length).map fun p=>us.getD p .none).toArray c8),(L+1,o1)]) (cl:=[]) (Nm:=NmV "name" _) (fun O=>true) (fun j y nw=>(∃ t,y=.str (wds "<" (raw ((nmL raw r).getD j 0)).kd "str") t)/\nw=[]) (by with_unfolding_all rfl) (by decide +kernel) (by decide +kernel) (by intro _;rfl) (jg4 [_,_,_] 0xf20f12f0000080dab1f0ab00003e8d h128 hr hnl) (by rfl) ?_ (stores_name (by rfl) (by rfl)) yQo ?_ ?_
 ·show wpAny _ _ _ _ _ _
  walk_at "rB"
  exact made_list hA (.inl ⟨_,_,rfl⟩) F9 N9 (N9 _ (.tail _ (.head _))).1
 ·intro j h ma3 tk E' C hj hp hn hnm hG
  obtain ⟨v,rfl,hv1⟩:=hnm
  have hB:=hG.1
  obtain ⟨t1,e1⟩:=hu2 j hj
  rw [e1] at hv1
  have XB:=X.keeps hB
  walk_at "rB"
  refine yQQ (b:=h) (sy:="<") (y:="str") hd hu hA (fun _ _ q=>q) (by exact vC _) (X.keeps hB) (T.keeps hB) (by decide +kernel) (kd_len _) (by decide +kernel) ?_
  intro h' tk t st
  exact yZN.of rfl st ⟨⟨t,rfl⟩,rfl⟩
 intro D2 h10 tk10 rs2 hr2 hm2
 obtain ⟨r1,r2,r3⟩:=hr2.plain (f:=fun j y=>∃ t,y=.str (wds "<" (raw ((nmL raw r).getD j 0)).kd "str") t) fun j y nw q=>q
 obtain ⟨F10,⟨c10,N10⟩,off10⟩:=hm2
 rw [r1] at N10
 rw [yQt] at r2 r3
 have S2:=yXj (f:=fun k=>wds "<" (raw k).kd "str") r2 r3
 generalize rs2.map (·.1)=us2 at *
 clear hr2 r1 r2 r3 off10 F9 N9
 replace N10:News b L h10 [(D2,listOf us2.toArray c10),(D1,listOf us1.toArray c9),(D,listOf ((List.range (nmL raw r).length).map fun p=>us.getD p .none).toArray c8),(L+1,o1)]:=N10
 refine add_arrays (hsz:=by rw [size_toArray,size_toArray,S1.len_eq,S2.len_eq,length_map,length_map,sizeLine_eq];exact (jg4 [_,_,_] 0xf202cf122cf0000080dab12cfa00ab1000000d h128 hr hnl)) F10 N10 (qW (n:=c9) (N10 _ (.tail _ (.head _))).1) (qW (n:=c10) (N10 _ (.head _)).1) ?_
 intro h11 F11 N11
 walk_at "rB"
 rename_i T h12 F12 N12 l12
 refine h h12 _ T _ _ _ _ _ _ F12.keep (N12 _ (.head _)).2.2 (N12 _ (.head _)).1 (N12 _ (.tail _ (.head _))).1 (N12 _ (.tail _ (.head _))).2.2 ?_
 exact S1.append' S2
end K_due_n
theorem yDF {A s b E RWS L N cR r vs raw m o1 tu QF}:K_due_n.zP A s b E RWS L N cR r vs raw m o1 tu QF:=eps (P:=U15 K_due_n.zP) K_due_n.zh (A,s,b,E,RWS,L,N,cR,r,vs,raw,m,o1,tu,QF)
theorem yYp {vs:List Value} {o j:Nat} (h:j < o):(vs.take o).getD j .none=vs.getD j .none:=by
 simp [qR,List.getElem?_take,h]
theorem yJo:∀ {vs:List Value} {zs:List Int} {i:Nat} {z:Int},IntsAre vs zs->zs[i]?=some z->∃ t,vs[i]?=some (.int z t)
 | _,_,_,_,.nil,h=>by simp at h
 | _,_,0,_,.cons n t _,h=>⟨t,by cases wD h;rfl⟩
 | _,_,i+1,_,.cons _ _ r,h=>yJo (i:=i) r h
theorem yAe {A:Around} {E:VS} {s:Shared} {value slice:PySem.Expr} {R:Addr} {us:List Value} {c:Nat} {v:Value} {u:Tok} {Q:VS} (g:s.heap.get? R=some (listOf us.toArray c)) (h0:0 < us.length) (hx:us[us.length - 1]?=some v) (h:Q v s)
  (hs:subscripted slice false (.ref R) (.int (-1) u)=operate [.ref R,.int (-1) u] (getItem (.ref R) (.int (-1) u)):=by with_unfolding_all rfl):
  wpAny (model prog w) A (subscriptTail value slice (.ref R) (.int (-1) u)) Q E s:=
 tail_any (qW (n:=c) g).typeIs slot_list_getitem.lookup (wpAny_getItem_list_neg (qW (n:=c) g) (by decide) (Int.neg_le_neg (Int.ofNat_le.2 h0)) (by decide) (by
  rw [size_toArray,show (-1+(us.length:Int)).toNat=us.length - 1 from np9 h0];simpa using hx) h) hs
namespace K_due_m
def zP (A:Around) (s:Shared) (b:Heap) (E:VS) (RWS OD L:Addr) (N cR cO o:Nat) (vs us:List Value) (raw:Nat->Rw) (wish:Int) (dn:Bool) (M:Int) (m:Str->Option Value) (o1:Obj) (tw to tu:Tok) (QF:Flow->Shared->Prop):Prop:=∀ (hd:A.depth<=497) (hu:A.units<=470) (hA:A.handled=none) (X:(hd01.heap_1 w.params).In b) (T:Top p loose yQv mg mb b) (F:Fr b L s.heap m) (N0:News b L s.heap [(OD,listOf us.toArray cO),(L+1,o1)]) (d1:o1.data=.cell (some (.ref RWS))) (hR:b.get? RWS=some (listOf vs.toArray cR)) (hvs:vs.length=N) (h128:N < 128) (hv:∀ j,j < N->IsR (vs.getD j .none) (raw j)) (ho:o < N) (hw:1<=wish) (hwo:wish<=o) (hF:Fst raw o) (hno:raw o≠.thorn) (iO:us.toArray[((0:Int)).toNat]?=some (.int (o:Int) to)) (e_w:m (Str.ofString "wish")=some (.int wish tw)) (e_l:m (Str.ofString "largest")=some (.bool dn)) (e_o:m (Str.ofString "odd")=some (.ref OD)) (e_u:m (Str.ofString "until")=some (.int ((o+1:Nat):Int) tu)) (h:∀ h' tk D R t1 t2 c mm vals,b.StaysIn h'->b.get? D=none->h'.get? D=some { cls:=.type "tuple",data:=.seq #[.int ((o+1:Nat):Int) t1,.str (Str.ofString "kinds") t2,.ref R] mm }->h'.get? R=some (listOf (List.toArray vals) c)->b.get? R=none->StrsAre vals [wdT dn wish raw o ((ordD (scR dn M raw 0) o).getD (wish.toNat - 1) 0)]->QF (.ret (.ref D)) {s with heap:=h',toks:=tk}),
  wpAny (model prog w) A (execs (yQR.drop 8) (envD L)) QF E s
def zc:=ep (U23 zP) ⟨({},(start default).1,default,fun O O=>True,0,0,0,0,0,0,0,[],[],fun O=>.thorn,0,true,0,fun O=>none,default,0,0,0,fun O O=>True)⟩
def zd1:=zc.2.2.2.2.2.2.2.2
def zd2:=zd1.2.2.2.2.2.2.2.2
def A:=zc.1
def s:=zc.2.1
def b:=zc.2.2.1
def N:=zc.2.2.2.2.2.2.2.1
def o:=zd1.2.2.1
def vs:=zd1.2.2.2.1
def raw:=zd1.2.2.2.2.2.1
def wish:=zd1.2.2.2.2.2.2.1
def dn:=zd1.2.2.2.2.2.2.2.1
def M:=zd2.1
theorem zh:zP A s b zc.2.2.2.1 zc.2.2.2.2.1 zc.2.2.2.2.2.1 zc.2.2.2.2.2.2.1 N zd1.1 zd1.2.1 o vs zd1.2.2.2.2.1 raw wish dn M zd2.2.1 zd2.2.2.1 zd2.2.2.2.1 zd2.2.2.2.2.1 zd2.2.2.2.2.2.1 zd2.2.2.2.2.2.2:=by
 intro hd hu hA X T F N0 d1 hR hvs h128 hv ho hw hwo hF hno iO e_w e_l e_o e_u h
 conv in yQR.drop 8=>whnf
 have hov:IsV (vs.getD o .none) (raw o):=(hv o ho).elim (fun z=>absurd z.2 hno) id
 have hlv:∀ k,k < o->IsV (vs.getD k .none) (raw k):=fun k hk=>(hv k (vV hk ho)).elim (fun z=>absurd z.2 (hF k hk).1) id
 have gv:∀ i:Nat,i < N->vs.toArray[((i:Int)).toNat]?=some (vs.getD i .none):=fun i hi=>by simp [qR,show i < vs.length from by rw [hvs];exact hi]
 walk_at "rC"
 refine yQf (N0 _ (.head _)).1 (by decide) (by decide) iO ?_
 walk_at "rC"
 refine yQf (F.keep _ _ hR) (vM _) (ltJ ho h128) (gv o ho) ?_
 walk_at "rC"
 refine yJn (b:=s.heap) hd hu hA (fun _ _ q=>q) (by exact vC _) (X.keeps F.keep) (T.keeps F.keep) hov ?_
 intro h2 tk2 t2 st2
 have F2:=fr_keeps F st2
 have N2:=news_keeps N0 st2
 walk_at "rC"
 rename_i h3 F3 N3
 refine yQf (N3 _ (.head _)).1 (by decide) (by decide) iO ?_
 walk_at "rC"
 refine kmk_slice F3 N3 (qW (F3.keep _ _ hR)) .none (.int _ _) ?_ (by with_unfolding_all rfl) (by intro _;with_unfolding_all rfl) (by rw [sizeLine_eq];exact qZ (wM (hvs ▸ h128)) (by decide))
 intro SL h4 F4 N4 l4
 rw [yVq] at N4
 walk_at "rC"
 refine yXs (M:=M) (raw:=raw) (N:=o) (b:=h4) hd hu hA (fun _ _ q=>q) (by exact vC _) (X.keeps F4.keep) (T.keeps F4.keep) (N4 _ (.head _)).1 (by rw [length_take];exact min_eq_left (hvs ▸ wM ho)) (vV ho h128) (fun j hj=>by rw [yYp hj];exact hlv j hj) hF hw ?_
 intro R5 h5 tk5 c5 us5 st5 nR5 gR5 iR5
 have F5:=fr_keeps F4 st5
 have N5:=news_keeps N4 st5
 walk_at "rC"
 refine kba_turn (value':=PySem.Expr.Name (PySem.Str.ofString "x") ⟨0,0,0,0⟩) (fun O=>rfl) ?_
 obtain ⟨q,hq⟩:∃ q,q=(ordD (scR dn M raw 0) o).getD (wish.toNat - 1) 0:=⟨_,rfl⟩
 have hqo:q < o:=by rw [hq];exact ordD_getD (np40 hw hwo)
 have hul:us5.length=wish.toNat:=by rw [iR5.length,length_map,length_take,ordD_len];exact min_eq_left (Int.toNat_le.mpr hwo)
 obtain ⟨tq,gq⟩:=yJo (i:=wish.toNat - 1) (z:=(q:Int)) iR5 (by
  have hl:wish.toNat - 1 < (ordD (scR dn M raw 0) o).length:=by rw [ordD_len];exact np40 hw hwo
  rw [List.getElem?_map,List.getElem?_take,qN (Nat.sub_lt (Int.lt_toNat.mpr hw) Nat.one_pos),qT hl,hq,qR,qT hl]
  rfl)
 refine yAe gR5 (np41 hw hul) (by rw [hul];exact gq) ?_
 refine yQf (F5.keep _ _ hR) (vM _) (ltJ (vV hqo ho) h128) (gv q (vV hqo ho)) ?_
 walk_at "rC"
 refine yJn (b:=h5) hd hu hA (fun _ _ q=>q) (by exact vC _) (X.keeps F5.keep) (T.keeps F5.keep) (hlv q hqo) ?_
 intro h6 tk6 t6 st6
 have F6:=fr_keeps F5 st6
 have N6:=news_keeps N5 st6
 rw [<- hq] at h
 clear F5 N5 gR5
 walk_at "rB"
 ·rename_i h7 F7 N7 hdn hw1
  refine yQQ (b:=h7) (sy:=">") hd hu hA (fun _ _ q=>q) (by exact vC _) (X.keeps F7.keep) (T.keeps F7.keep) (by decide +kernel) (kd_len _) (kd_len _) ?_
  intro h8 tk8 t8 st8
  have F8:=fr_keeps F7 st8
  have N8:=news_keeps N7 st8
  clear F7 N7
  walk_at "rB"
  rename_i D h9 F9 N9 _
  exact h h9 _ D _ _ _ _ _ _ F9.keep (N9 _ (.head _)).2.2 (N9 _ (.head _)).1 (N9 _ (.tail _ (.head _))).1 (N9 _ (.tail _ (.head _))).2.2 (by unfold wdT;rw [qN hw1,hdn];exact .cons _ _ .nil)
 ·rename_i h7 F7 N7 hdn hw1
  refine yQQ (b:=h7) (sy:="<") hd hu hA (fun _ _ q=>q) (by exact vC _) (X.keeps F7.keep) (T.keeps F7.keep) (by decide +kernel) (kd_len _) (kd_len _) ?_
  intro h8 tk8 t8 st8
  have F8:=fr_keeps F7 st8
  have N8:=news_keeps N7 st8
  clear F7 N7
  walk_at "rB"
  rename_i D h9 F9 N9 _
  exact h h9 _ D _ _ _ _ _ _ F9.keep (N9 _ (.head _)).2.2 (N9 _ (.head _)).1 (N9 _ (.tail _ (.head _))).1 (N9 _ (.tail _ (.head _))).2.2 (by unfold wdT;rw [qM hw1,hdn];exact .cons _ _ .nil)
 ·rename_i h7 F7 N7 hdn
  refine yQQ (b:=h7) (sy:="<") hd hu hA (fun _ _ q=>q) (by exact vC _) (X.keeps F7.keep) (T.keeps F7.keep) (by decide +kernel) (kd_len _) (kd_len _) ?_
  intro h8 tk8 t8 st8
  have F8:=fr_keeps F7 st8
  have N8:=news_keeps N7 st8
  clear F7 N7
  walk_at "rB"
  rename_i D h9 F9 N9 _
  exact h h9 _ D _ _ _ _ _ _ F9.keep (N9 _ (.head _)).2.2 (N9 _ (.head _)).1 (N9 _ (.tail _ (.head _))).1 (N9 _ (.tail _ (.head _))).2.2 (by unfold wdT;rw [hdn];simp only [wH,if_false,ite_self];exact .cons _ _ .nil)
end K_due_m
theorem yDG {A s b E RWS OD L N cR cO o vs us raw wish dn M m o1 tw to tu QF}:K_due_m.zP A s b E RWS OD L N cR cO o vs us raw wish dn M m o1 tw to tu QF:=eps (P:=U23 K_due_m.zP) K_due_m.zh (A,s,b,E,RWS,OD,L,N,cR,cO,o,vs,us,raw,wish,dn,M,m,o1,tw,to,tu,QF)
namespace K_due_c
def zP (A:Around) (s:Shared) (b:Heap) (E:VS) (RWS OD L:Addr) (N cR cO th:Nat) (vs:List Value) (raw:Nat->Rw) (wish:Int) (dn:Bool) (M:Int) (m:Str->Option Value) (o1:Obj) (tz tw tt tu:Tok) (QF:Flow->Shared->Prop):Prop:=∀ (us:List Value) (hd:A.depth<=497) (hu:A.units<=470) (hA:A.handled=none) (X:(hd01.heap_1 w.params).In b) (T:Top p loose yQv mg mb b) (F:Fr b L s.heap m) (N0:News b L s.heap [(OD,listOf us.toArray cO),(L+1,o1)]) (d1:o1.data=.cell (some (.ref RWS))) (hR:b.get? RWS=some (listOf vs.toArray cR)) (hvs:vs.length=N) (h128:N < 128) (hv:∀ j,j < N->IsR (vs.getD j .none) (raw j)) (hw:1<=wish) (ht1:th=N\/(th < N/\raw th=.thorn)) (ht2:∀ i,i < th->raw i≠.thorn) (iO:IntsAre us (((List.range N).filter (odP raw)).map fun k:Nat=>(k:Int))) (e_z:m (Str.ofString "size")=some (.int (N:Int) tz)) (e_w:m (Str.ofString "wish")=some (.int wish tw)) (e_l:m (Str.ofString "largest")=some (.bool dn)) (e_t:m (Str.ofString "thorn")=some (.int (th:Int) tt)) (e_o:m (Str.ofString "odd")=some (.ref OD)) (e_u:m (Str.ofString "until")=some (.int (untilP N wish ((List.range N).filter (odP raw))) tu)) (h:∀ h' tk D,b.StaysIn h'->b.get? D=none->yDk b dn M raw N wish h' D->QF (.ret (.ref D)) {s with heap:=h',toks:=tk}),
  wpAny (model prog w) A (execs (yQR.drop 5) (envD L)) QF E s
def zc:=ep (U23 zP) ⟨({},(start default).1,default,fun O O=>True,0,0,0,0,0,0,0,[],fun O=>.thorn,0,true,0,fun O=>none,default,0,0,0,0,fun O O=>True)⟩
def zd1:=zc.2.2.2.2.2.2.2.2
def zd2:=zd1.2.2.2.2.2.2.2.2
def A:=zc.1
def b:=zc.2.2.1
def OD:=zc.2.2.2.2.2.1
def L:=zc.2.2.2.2.2.2.1
def N:=zc.2.2.2.2.2.2.2.1
def cO:=zd1.2.1
def th:=zd1.2.2.1
def raw:=zd1.2.2.2.2.1
def wish:=zd1.2.2.2.2.2.1
def M:=zd1.2.2.2.2.2.2.2.1
def o1:=zd2.2.1
theorem zh:zP A zc.2.1 b zc.2.2.2.1 zc.2.2.2.2.1 OD L N zd1.1 cO th zd1.2.2.2.1 raw wish zd1.2.2.2.2.2.2.1 M zd2.1 o1 zd2.2.2.1 zd2.2.2.2.1 zd2.2.2.2.2.1 zd2.2.2.2.2.2.1 zd2.2.2.2.2.2.2:=by
 intro us hd hu hA X T F N0 d1 hR hvs h128 hv hw ht1 ht2 iO e_z e_w e_l e_t e_o e_u h
 conv in yQR.drop 5=>whnf
 walk_at "rG"
 ·rename_i hlt
  have hthN:th<=N:=ht1.elim (fun z=>qD z) fun z=>wM z.1
  refine str_of_int_fit (N:=128) (by rw [qM (Int.not_lt.mpr (vM th))];exact ltZ (by assumption) (Int.ofNat_lt.mpr h128)) (by decide) fun t'=>?_
  walk_at "rG"
  rename_i D h2 F2 N2 l2
  exact h _ _ D F2.keep (N2 _ (.head _)).2.2 ⟨th+1,"thorn",_,_,_,0,_,_,(N2 _ (.head _)).1,(N2 _ (.tail _ (.head _))).1,(N2 _ (.tail _ (.head _))).2.2,.inr (.inl ⟨rfl,th,.cons _ _ .nil,yWG hw ht1 ht2 hlt⟩)⟩
 rename_i hlt R1 h2 F2 N2 l2
 refine ke_eq_ints (xs:=us) (ys:=[]) (qW (n:=cO) (N2 _ (.tail _ (.head _))).1) (qW (n:=0) (N2 _ (.head _)).1) iO .nil (by show A.units+64 < cLine;simp [cLine];exact (jl2 [_] 0xf00001d6d0fa0000040d000026acd hu)) ?_
 replace N2:News b L h2 [(OD,listOf us.toArray cO),(L+1,o1)]:=fun q hq=>N2 q (.tail _ hq)
 cases e:(List.range N).filter (odP raw) with
 | nil=>
  have hFst:=yXC ht2 e hlt
  walk_at "rG"
  refine yXs (M:=M) (raw:=raw) (N:=N) (b:=h2) hd hu hA (fun _ _ q=>q) (by exact vC _) (X.keeps F2.keep) (T.keeps F2.keep) (F2.keep _ _ hR) hvs h128 (fun j hj=>(hv j hj).elim (fun z=>absurd z.2 (hFst j hj).1) id) hFst hw ?_
  intro R h3 tk3 c3 us3 st3 nR gR iR
  have F3:=fr_keeps F2 st3
  have nRL:R≠L:=fun q=>by obtain ⟨o,ho⟩:=yQk F2.ns;have ho:h2.get? L=some o:=ho;rw [<- q,nR] at ho;cases ho
  have N3:News b L h3 [(R,listOf us3.toArray c3)]:=fun q hq=>by
   rw [qC.mp hq];exact ⟨gR,nRL,none_sub F2.keep nR⟩
  clear F2 N2
  walk_at "rG"
  rename_i D h4 F4 N4 l4
  exact h _ _ D F4.keep (N4 _ (.head _)).2.2 ⟨N,"told",_,_,_,c3,_,_,(N4 _ (.head _)).1,(N4 _ (.tail _ (.head _))).1,(N4 _ (.tail _ (.head _))).2.2,.inl ⟨rfl,_,iR,.inr ⟨hw,hFst,rfl,rfl⟩⟩⟩
 | cons o l=>
  obtain ⟨u1,u2,u3,u4⟩:=yYj hw ht2 e hlt
  rw [e] at iO e_u
  obtain ⟨to,us',rfl⟩:∃ to us',us=.int (o:Int) to::us':=by
   cases iO with
   | cons _ t _=>exact ⟨t,_,rfl⟩
  walk_at "rG"
  ·rename_i z
   simp at z
  refine yQf (v:=.int (o:Int) to) (N2 _ (.head _)).1 (by decide) (by decide) rfl ?_
  walk_at "rG"
  ·rename_i _ how
   obtain ⟨q1,q2,q3⟩:=u3 how
   rw [q1] at e_u
   refine yDF (r:=min N wish.toNat) hd hu hA X T F2 (fun q hq=>N2 q (.tail _ hq)) d1 hR hvs h128 hv (min_le_left _ _) q3 e_u ?_
   intro h' tk D R t1 t2 c mm vals st nD gD gR nR iv
   exact h _ _ D st nD ⟨_,"kinds",t1,t2,R,c,mm,vals,gD,gR,nR,.inr (.inr ⟨rfl,_,iv,.inl ⟨hw,rfl,q3,⟨o,q2,u2.2⟩,yAo⟩⟩)⟩
  ·rename_i _ how
   obtain ⟨q1,q2,q3⟩:=u4 how
   rw [q1] at e_u
   refine yDG (M:=M) (o:=o) hd hu hA X T F2 N2 d1 hR hvs h128 hv u1 hw q2 q3 u2.1 rfl e_w e_l e_o e_u ?_
   intro h' tk D R t1 t2 c mm vals st nD gD gR nR iv
   exact h _ _ D st nD ⟨_,"kinds",t1,t2,R,c,mm,vals,gD,gR,nR,.inr (.inr ⟨rfl,_,iv,.inr ⟨o,_,hw,rfl,u1,q2,q3,u2,rfl,rfl⟩⟩)⟩
end K_due_c
section
variable {A:Around} {s:Shared} {b:Heap} {Q:VS} {E:VS}
theorem yCO {RWS OD L:Addr} {N cR cO th:Nat} {vs us:List Value} {raw:Nat->Rw} {wish:Int} {dn:Bool} {M:Int} {m:Str->Option Value} {o1:Obj} {tz tw tt tu:Tok} {QF:Flow->Shared->Prop}
  (hd:A.depth<=497) (hu:A.units<=470) (hA:A.handled=none) (X:(hd01.heap_1 w.params).In b) (T:Top p loose yQv mg mb b) (F:Fr b L s.heap m) (N0:News b L s.heap [(OD,listOf us.toArray cO),(L+1,o1)]) (d1:o1.data=.cell (some (.ref RWS)))
  (hR:b.get? RWS=some (listOf vs.toArray cR)) (hvs:vs.length=N) (h128:N < 128) (hv:∀ j,j < N->IsR (vs.getD j .none) (raw j)) (hw:1<=wish)
  (ht1:th=N\/(th < N/\raw th=.thorn)) (ht2:∀ i,i < th->raw i≠.thorn) (iO:IntsAre us (((List.range N).filter (odP raw)).map fun k:Nat=>(k:Int)))
  (e_z:m (Str.ofString "size")=some (.int (N:Int) tz)) (e_w:m (Str.ofString "wish")=some (.int wish tw)) (e_l:m (Str.ofString "largest")=some (.bool dn)) (e_t:m (Str.ofString "thorn")=some (.int (th:Int) tt)) (e_o:m (Str.ofString "odd")=some (.ref OD)) (e_u:m (Str.ofString "until")=some (.int (untilP N wish ((List.range N).filter (odP raw))) tu))
  (h:∀ h' tk D,b.StaysIn h'->b.get? D=none->yDk b dn M raw N wish h' D->QF (.ret (.ref D)) {s with heap:=h',toks:=tk}):
  wpAny (model prog w) A (execs (yQR.drop 5) (envD L)) QF E s:=
 eps (P:=U23 K_due_c.zP) K_due_c.zh (A,s,b,E,RWS,OD,L,N,cR,cO,th,vs,raw,wish,dn,M,m,o1,tz,tw,tt,tu,QF) us hd hu hA X T F N0 d1 hR hvs h128 hv hw ht1 ht2 iO e_z e_w e_l e_t e_o e_u h
end
theorem yVb {A:Around} {E:VS} {s:Shared} {v:Value} {raw:Nat->Rw} {k:Nat} {Q:VS} (hv:IsR v (raw k)) (h:Q (.bool (!thB raw k)) s):wpAny (model prog w) A (compareOp .IsNot v .none) Q E s:=by
 rcases hv with ⟨e1,e2⟩ | hv
 ·rw [e1]
  rw [yJx.mpr e2] at h
  walk1
  exact h
 ·have e:thB raw k=false:=by
   unfold thB
   cases r:raw k<;>rw [r] at hv<;>first | rfl | exact hv.elim
  rw [e] at h
  cases r:raw k<;>rw [r] at hv
  ·obtain ⟨t,z⟩:=hv;rw [z];walk1;exact h
  ·rw [show v=.bool _ from hv];walk1;exact h
  ·obtain ⟨_,t,z⟩:=hv;rw [z];walk1;exact h
  ·exact hv.elim
theorem yCB {raw:Nat->Rw} {j:Nat} (h:thB raw j=false):odP raw j=((raw j).t != (raw 0).t):=by
 unfold odP
 cases r:raw j with
 | thorn=>rw [yJx.mpr r] at h;cases h
 | _=>simp
theorem yZx {A:Around} {s:Shared} {E:VS} {a b:Int} {t u:Tok} {Q:VS} (hh:A.handled=none) (h:∀ h' tk t',s.heap.StaysIn h'->Q (.int (max a b) t') {s with heap:=h',toks:=tk}):wpAny (model prog w) A (call (.builtin "max") [.int a t,.int b u]) Q E s:=by
 refine max_two_ints hh fun h' tk kp=>?_
 by_cases hw:b > a
 ·rw [qN hw]
  have z:=h h' tk u kp
  rw [Int.max_eq_right (Int.le_of_lt hw)] at z;exact z
 ·rw [qM hw]
  have z:=h h' tk t kp
  rw [Int.max_eq_left (Int.not_lt.mp hw)] at z;exact z
theorem yZw {A:Around} {s:Shared} {E:VS} {a b:Int} {t u:Tok} {Q:VS} (hh:A.handled=none) (h:∀ h' tk t',s.heap.StaysIn h'->Q (.int (min a b) t') {s with heap:=h',toks:=tk}):wpAny (model prog w) A (call (.builtin "min") [.int a t,.int b u]) Q E s:=by
 refine min_two_ints hh fun h' tk kp=>?_
 by_cases hw:b < a
 ·rw [qN hw]
  have z:=h h' tk u kp
  rw [Int.min_eq_right (Int.le_of_lt hw)] at z;exact z
 ·rw [qM hw]
  have z:=h h' tk t kp
  rw [Int.min_eq_left (Int.not_lt.mp hw)] at z;exact z
namespace K_due_b
def zP (A:Around) (s:Shared) (b:Heap) (E:VS) (RWS L:Addr) (N cR th:Nat) (vs:List Value) (raw:Nat->Rw) (wish:Int) (dn:Bool) (M:Int) (m:Str->Option Value) (o1:Obj) (tz tw tt:Tok) (QF:Flow->Shared->Prop):Prop:=∀ (hd:A.depth<=497) (hu:A.units<=470) (hA:A.handled=none) (X:(hd01.heap_1 w.params).In b) (T:Top p loose yQv mg mb b) (F:Fr b L s.heap m) (N0:News b L s.heap [(L+1,o1)]) (d1:o1.data=.cell (some (.ref RWS))) (hR:b.get? RWS=some (listOf vs.toArray cR)) (hvs:vs.length=N) (h128:N < 128) (hv:∀ j,j < N->IsR (vs.getD j .none) (raw j)) (hw:1<=wish) (ht1:th=N\/(th < N/\raw th=.thorn)) (ht2:∀ i,i < th->raw i≠.thorn) (e_z:m (Str.ofString "size")=some (.int (N:Int) tz)) (e_w:m (Str.ofString "wish")=some (.int wish tw)) (e_l:m (Str.ofString "largest")=some (.bool dn)) (e_t:m (Str.ofString "thorn")=some (.int (th:Int) tt)) (h:∀ h' tk D,b.StaysIn h'->b.get? D=none->yDk b dn M raw N wish h' D->QF (.ret (.ref D)) {s with heap:=h',toks:=tk}),
  wpAny (model prog w) A (execs (yQR.drop 3) (envD L)) QF E s
def zc:=ep (U20 zP) ⟨({},(start default).1,default,fun O O=>True,0,0,0,0,0,[],fun O=>.thorn,0,true,0,fun O=>none,default,0,0,0,fun O O=>True)⟩
def zd1:=zc.2.2.2.2.2.2.2.2
def zd2:=zd1.2.2.2.2.2.2.2.2
def A:=zc.1
def b:=zc.2.2.1
def L:=zc.2.2.2.2.2.1
def N:=zc.2.2.2.2.2.2.1
def vs:=zd1.2.1
def raw:=zd1.2.2.1
def M:=zd1.2.2.2.2.2.1
def m:=zd1.2.2.2.2.2.2.1
def o1:=zd1.2.2.2.2.2.2.2.1
theorem zh:zP A zc.2.1 b zc.2.2.2.1 zc.2.2.2.2.1 L N zc.2.2.2.2.2.2.2.1 zd1.1 vs raw zd1.2.2.2.1 zd1.2.2.2.2.1 M m o1 zd2.1 zd2.2.1 zd2.2.2.1 zd2.2.2.2:=by
 intro hd hu hA X T F N0 d1 hR hvs h128 hv hw ht1 ht2 e_z e_w e_l e_t h
 conv in yQR.drop 3=>whnf
 have gv:∀ i:Nat,i < N->vs.toArray[((i:Int)).toNat]?=some (vs.getD i .none):=fun i hi=>by simp [qR,show i < vs.length from by exact (jl3 [_,_,_] 0xf2ab1f02f10 (qD (hvs).symm :) hi)]
 have gv0:0 < N->vs.toArray[((0:Int)).toNat]?=some (vs.getD 0 .none):=fun hi=>by simp [qR,show 0 < vs.length from by exact (jl3 [_,_] 0xf1ab0cf01f0c0 (qD (hvs).symm :) hi)]
 walk_at "rC"
 refine yVo (L:=L) (m:=m) (B:=b) (n:=N) (V:=fun j v=>∃ t,v=.int (0+(j:Int)) t) (news:=[(L+1,o1)]) (cl:=[(Str.ofString "raws",L+1)]) (Nm:=NmV "k" _) (odP raw) (fun j y nw=>(∃ t,y=.int (j:Int) t)/\nw=[]) (by rfl) (by kernel_rfl) (by kernel_rfl) (by decide +kernel) (by decide +kernel) (by rfl) (by rfl) (by intro _;rfl) (jg2 [_] 0xf0000080dab0f0ab00003e8d h128) (by rfl) ?_ (stores_name (by rfl) (by rfl)) ?_ ?_ ?_
 ·show wpAny _ _ _ _ _ _
  walk_at "rC"
  rename_i h6 tk6 t1 u1 v1 hr F6 N6 k6
  exact yQX hA F6 N6 hr (jg2 [_] 0xf0000080dab0f0ab00186a0d h128)
 ·intro j h ma3 tk E' C hj hn hnm hG
  obtain ⟨v,⟨t,rfl⟩,hv1⟩:=hnm
  rw [Int.zero_add] at hv1
  have hB:=hG.1
  have hc1:=hG.2 _ (.head _)
  dsimp only at hc1
  refine wpAny_tests_one ?_
  walk_at "rC"
  refine yQD (by rfl) (by kernel_rfl) (by rfl) hc1 d1 ?_
  walk_at "rC"
  refine yQf (hB _ _ hR) (vM _) (ltJ hj h128) (gv j hj) ?_
  walk_at "rC"
  refine yVb (hv j hj) ?_
  cases hb:thB raw j with
  | true=>
   walk_at "rC"
   all_goals first | exact fun _ _ e=>e | (unfold odP;rw [yJx.mp hb];rfl)
  | false=>
   walk_at "rC"
   refine yQD (by rfl) (by kernel_rfl) (by rfl) hc1 d1 ?_
   walk_at "rC"
   refine yQf (hB _ _ hR) (vM _) (ltJ hj h128) (gv j hj) ?_
   walk_at "rC"
   refine yWQ (hv j hj) fun tk2=>?_
   walk_at "rC"
   refine yQD (by rfl) (by kernel_rfl) (by rfl) hc1 d1 ?_
   walk_at "rC"
   refine yQf (hB _ _ hR) (by decide) (by decide) (gv0 (vR (vZ _) hj)) ?_
   walk_at "rC"
   refine yWQ (hv 0 (vR (vZ _) hj)) fun tk3=>?_
   walk_at "rC"
   all_goals first | exact fun _ _ e=>e | (rw [yCB hb];exact Eq.symm (by assumption))
 ·intro j h ma3 tk E' C hj hp hn hnm hG
  obtain ⟨v,⟨t,rfl⟩,hv1⟩:=hnm
  exact load_c (by rfl) (by rfl) hn hv1 (yZN.of rfl (fun _ _ e=>e) ⟨⟨t,by rw [Int.zero_add]⟩,rfl⟩)
 intro D h8 tk8 rs hr hm
 obtain ⟨r1,r2,r3⟩:=hr.plain (f:=fun j y=>∃ t,y=.int (j:Int) t) fun j y nw q=>q
 obtain ⟨F8,⟨c8,N8⟩,off8⟩:=hm
 rw [r1] at N8
 have iV:IntsAre (rs.map (·.1)) (((List.range N).filter (odP raw)).map fun k:Nat=>(k:Int)):=ints_of (by rw [r2,length_map]) fun i v hv=>by
  obtain ⟨t,e⟩:=r3 i v hv
  exact ⟨t,by rw [e,yWw]⟩
 generalize rs.map (·.1)=us at *
 clear hr r1 r2 r3 off8
 walk_at "rH"
 rename_i R9 h9 F9 N9 l9
 walk_at "rH"
 refine ke_ne_ints (xs:=us) (ys:=[]) (qW (n:=c8) (N9 _ (.tail _ (.head _))).1) (qW (n:=0) (N9 _ (.head _)).1) iV .nil (by show A.units+64 < cLine;simp [cLine];exact (jl2 [_] 0xf00001d6d0fa0000040d000026acd hu)) ?_
 replace N9:News b L h9 [(D,listOf us.toArray c8),(L+1,o1)]:=fun q hq=>N9 q (.tail _ hq)
 have e0:=iV
 generalize hC:(List.range N).filter (odP raw)=C9 at iV ⊢
 cases C9 with
 | nil=>
  refine wpAny_truthy_bool ?_
  rw [qM (by decide)]
  walk_at "rH"
  rename_i h10 F10 N10
  exact yCO (M:=M) hd hu hA X T F10 N10 d1 hR hvs h128 hv hw ht1 ht2 e0 (by exact e_z) (by exact e_w) (by exact e_l) (by exact e_t) (by rfl) (by rw [hC];rfl) h
 | cons o l=>
  obtain ⟨to,us',rfl⟩:∃ to us',us=.int (o:Int) to::us':=by
   cases iV with
   | cons _ t _=>exact ⟨t,_,rfl⟩
  refine wpAny_truthy_bool ?_
  rw [qN (by simp)]
  walk_at "rH"
  refine yQf (v:=.int (o:Int) to) (N9 _ (.head _)).1 (by decide) (by decide) rfl ?_
  walk_at "rH"
  refine yZx hA fun h10 tk10 t10 k10=>?_
  have F10:=fr_keeps F9 k10
  have N10:=news_keeps N9 k10
  clear F9 N9
  walk_at "rH"
  refine yZw hA fun h11 tk11 t11 k11=>?_
  have F11:=fr_keeps F10 k11
  have N11:=news_keeps N10 k11
  clear F10 N10
  walk_at "rH"
  rename_i h12 F12 N12
  exact yCO (M:=M) hd hu hA X T F12 N12 d1 hR hvs h128 hv hw ht1 ht2 e0 (by exact e_z) (by exact e_w) (by exact e_l) (by exact e_t) (by rfl) (by rw [hC];rfl) h
end K_due_b
theorem yDH {A s b E RWS L N cR th vs raw wish dn M m o1 tz tw tt QF}:K_due_b.zP A s b E RWS L N cR th vs raw wish dn M m o1 tz tw tt QF:=eps (P:=U20 K_due_b.zP) K_due_b.zh (A,s,b,E,RWS,L,N,cR,th,vs,raw,wish,dn,M,m,o1,tz,tw,tt,QF)
theorem yWR {A:Around} {E:VS} {s:Shared} {v:Value} {raw:Nat->Rw} {k:Nat} {Q:VS} (hv:IsR v (raw k)) (h:Q (.bool (thB raw k)) s):wpAny (model prog w) A (compareOp .Is v .none) Q E s:=by
 rcases hv with ⟨e1,e2⟩ | hv
 ·rw [e1]
  refine is_none_none ?_
  rw [yJx.mpr e2] at h;exact h
 ·refine is_none_ne ?_ ?_
  ·cases r:raw k<;>rw [r] at hv
   ·obtain ⟨t,z⟩:=hv;rw [z];(intro z;cases z)
   ·rw [show v=.bool _ from hv];(intro z;cases z)
   ·obtain ⟨_,t,z⟩:=hv;rw [z];(intro z;cases z)
   ·exact hv.elim
  ·have e:thB raw k=false:=by
    unfold thB
    cases r:raw k<;>rw [r] at hv<;>first | rfl | exact hv.elim
   rw [e] at h;exact h
namespace K_law_due
def zP (A:Around) (s:Shared) (b:Heap) (Q E:VS) (RWS:Addr) (N cR:Nat) (vs:List Value) (raw:Nat->Rw) (wish:Int) (t:Tok) (dn:Bool) (M:Int):Prop:=∀ (hd:A.depth<=496) (hu:A.units<=465) (hA:A.handled=none) (st:b.StaysIn s.heap) (hsz:b.objs.size<=s.heap.objs.size) (X:(hd01.heap_1 w.params).In b) (T:Top p loose yQv mg mb b) (hR:b.get? RWS=some (listOf vs.toArray cR)) (hvs:vs.length=N) (h128:N < 128) (hv:∀ j,j < N->IsR (vs.getD j .none) (raw j)) (h:∀ h' tk D,b.StaysIn h'->b.get? D=none->yDk b dn M raw N wish h' D->Q (.ref D) {s with heap:=h',toks:=tk}),
  wpAny (model prog w) A (call (.ref 120) [.ref RWS,.int wish t,.bool dn]) Q E s
def zc:=ep (U14 zP) ⟨({},(start default).1,default,fun O O=>True,fun O O=>True,0,0,0,[],fun O=>.thorn,0,0,true,0)⟩
def zd1:=zc.2.2.2.2.2.2.2.2
def A:=zc.1
def s:=zc.2.1
def b:=zc.2.2.1
def Q:=zc.2.2.2.1
def RWS:=zc.2.2.2.2.2.1
def N:=zc.2.2.2.2.2.2.1
def vs:=zd1.1
def raw:=zd1.2.1
def wish:=zd1.2.2.1
def t:=zd1.2.2.2.1
def dn:=zd1.2.2.2.2.1
def M:=zd1.2.2.2.2.2
def yVN:Σ' Rq:Addr->Heap->Nat->Obj->Heap->Nat->Nat->Prop,U7 Rq (ep (U7 Rq) ⟨(0,default,0,default,default,0,0)⟩)->zP A s b Q zc.2.2.2.2.1 RWS N zc.2.2.2.2.2.2.2.1 vs raw wish t dn M:=⟨_,fun hq1=>by
 intro hd hu hA st hsz X T hR hvs h128 hv h
 obtain ⟨L',hL'⟩:∃ L':Addr,L'=s.heap.objs.size:=⟨_,rfl⟩
 refine wpAny_call ?_
 (k_dflt (refine' yZo ?k1 ?k2 ?k3 ?k4 ?k6 ?k7 ?k8 ?k9 ?kB ?kD ?_ ?c2 ?c3 ?c4;(case k1=>assumption);(case k2=>assumption);(case k3=>assumption);(case k4=>assumption);(case k6=>k_is);(case k7=>k_is);(case k8=>exact vR (by assumption) (by decide));(case k9=>first | exact BindsTo.of_eq rfl | exact binds_K (by assumption) rfl (by k_is) rfl rfl rfl);(case kB=>exact rfl);(case kD=>decide +kernel);(case c2=>exact rfl);(case c3=>exact rfl);(case c4=>exact rfl)))
 intro ha1 tk cells F0 N00 Y hk
 obtain ⟨o1,rfl,d1⟩:=CellsAre.one Y
 rw [<- hL'] at F0 N00 d1 ⊢
 replace d1:o1.data=.cell (some (.ref RWS)):=d1
 clear Y
 have hsz:vs.toArray.size=N:=by simp [hvs]
 have gv:∀ i:Nat,i < N->vs.toArray[((i:Int)).toNat]?=some (vs.getD i .none):=fun i hi=>by simp [qR,show i < vs.length from by exact (jl3 [_,_,_] 0xf2ab1f02f10 (qD (hvs).symm :) hi)]
 (try k_fold)
 walk_at "rF"
 refine Calls.call_len_list (qW (F0.keep _ _ hR)) (by rw [hsz];lia) ?_
 rw [hsz]
 walk_at "rF"
 ·rename_i D h2 F2 N2 l2
  exact h _ _ D F2.keep (N2 _ (.head _)).2.2 ⟨0,"told",_,_,_,0,_,[],(N2 _ (.head _)).1,(N2 _ (.tail _ (.head _))).1,(N2 _ (.tail _ (.head _))).2.2,.inl ⟨rfl,[],.nil,.inl ⟨by assumption,rfl,rfl⟩⟩⟩
 rename_i h2 F2 N2 _ hw
 rename_i zi0_1 zi0_2 zi0_3
 revert hd hu hA st zi0_1 X T hR hvs h128 hv h hL' hk d1 hsz gv F2 N2 hw
 revert L' ha1 zi0_2 o1 h2 zi0_3 tk
 exact eP7 hq1⟩
namespace c1
def z:=ep (U7 yVN.1) ⟨(0,default,0,default,default,0,0)⟩
def L':=z.1
def o1:=z.2.2.2.1
def h2:=z.2.2.2.2.1
def tk:=z.2.2.2.2.2.2
def yYe:Σ' Rq:(Str->Option Value)->Tok->Addr->Heap->Nat->(List (Value×List (Addr×Obj)))->Nat->List Value->Prop,U8 Rq (ep (U8 Rq) ⟨(fun O=>none,0,0,default,0,[],0,[])⟩)->yVN.1 L' z.2.1 z.2.2.1 o1 h2 z.2.2.2.2.2.1 tk:=⟨_,fun hq2=>by
 intro hd hu hA st zi0_1 X T hR hvs h128 hv h hL' hk d1 hsz gv F2 N2 hw
 have hw:1<=wish:=by lia
 obtain ⟨m2,F2,e_z,e_w,e_l⟩:∃ m2,A4 (Fr b L' h2 m2) (∃ t,m2 (Str.ofString "size")=some (.int (N:Int) t)) (m2 (Str.ofString "wish")=some (.int wish t)) (m2 (Str.ofString "largest")=some (.bool dn)):=⟨_,F2,⟨_,rfl⟩,rfl,rfl⟩
 obtain ⟨tz,e_z⟩:=e_z
 refine src_list (L:=L') (m:=m2) (B:=b) (n:=N) (V:=fun j v=>∃ t,v=.int (0+(j:Int)) t) (news:=[(L'+1,o1)]) (cl:=[(Str.ofString "raws",L'+1)]) (Nm:=NmV "k" _) (thB raw) (fun j y nw=>(∃ t,y=.int (j:Int) t)/\nw=[]) (by with_unfolding_all rfl) (by decide +kernel) (by decide +kernel) (by intro _;rfl) (jg2 [_] 0xf0000080dab0f0ab00003e8d h128) (by rfl) ?_ (stores_name (by rfl) (by rfl)) ?_ ?_ ?_
 ·show wpAny _ _ _ _ _ _
  walk_at "rF"
  rename_i h6 tk6 t1 u1 v1 hr F6 N6 k6
  exact yQX hA F6 N6 hr (jg2 [_] 0xf0000080dab0f0ab00186a0d h128)
 ·intro j h ma3 tk E' C hj hn hnm hG
  obtain ⟨v,⟨t,rfl⟩,hv1⟩:=hnm
  rw [Int.zero_add] at hv1
  have hB:=hG.1
  have hc1:=hG.2 _ (.head _)
  dsimp only at hc1
  refine wpAny_tests_one ?_
  walk_at "rF"
  refine yQD (by rfl) (by kernel_rfl) (by rfl) hc1 d1 ?_
  walk_at "rF"
  refine yQf (hB _ _ hR) (vM _) (ltJ hj h128) (gv j hj) ?_
  walk_at "rF"
  refine yWR (hv j hj) ?_
  walk_at "rF"
  exact fun _ _ e=>e
 ·intro j h ma3 tk E' C hj hp hn hnm hG
  obtain ⟨v,⟨t,rfl⟩,hv1⟩:=hnm
  exact load_c (by rfl) (by rfl) hn hv1 (yZN.of rfl (fun _ _ e=>e) ⟨⟨t,by rw [Int.zero_add]⟩,rfl⟩)
 intro D h8 tk8 rs hr hm
 obtain ⟨r1,r2,r3⟩:=hr.plain (f:=fun j y=>∃ t,y=.int (j:Int) t) fun j y nw q=>q
 obtain ⟨F8,⟨c8,N8⟩,off8⟩:=hm
 rw [r1] at N8
 have iV:IntsAre (rs.map (·.1)) (((List.range N).filter (thB raw)).map fun k:Nat=>(k:Int)):=ints_of (by rw [r2,length_map]) fun i v hv=>by
  obtain ⟨t,e⟩:=r3 i v hv
  exact ⟨t,by rw [e,yWw]⟩
 generalize rs.map (·.1)=us at *
 clear hr r1 r2 r3 off8
 rename_i zi1_1 zi1_2
 clear st zi0_1 hL' hk hsz gv zi1_1 N2 zi1_2 F2
 revert hd hu hA X T hR hvs h128 hv h d1 hw e_w e_l e_z F8 N8 iV
 revert m2 tz D h8 tk8 rs c8 us
 exact eP8 hq2⟩
namespace c2
def z:=ep (U8 yYe.1) ⟨(fun O=>none,0,0,default,0,[],0,[])⟩
def c8:=z.2.2.2.2.2.2.1
theorem tq:yYe.1 z.1 z.2.1 z.2.2.1 z.2.2.2.1 z.2.2.2.2.1 z.2.2.2.2.2.1 c8 z.2.2.2.2.2.2.2:=by
 intro hd hu hA X T hR hvs h128 hv h d1 hw e_w e_l e_z F8 N8 iV
 walk_at "rF"
 rename_i R3 h9 F9 N9 l9
 refine add_arrays_ints (hsz:=by rw [length_map];have:=List.length_filter_le (thB raw) (List.range N);rw [length_range] at this;rw [sizeLine_eq];show _+1<=_;exact (jg3 [_,_] 0xf0000080dab1f10fab0ab1000000d this h128)) F9 N9 (qW (n:=c8) (N9 _ (.tail _ (.head _))).1) (qW (n:=0) (N9 _ (.head _)).1) iV (.cons _ _ .nil) ?_
 intro h10 F10 N10 iW
 walk_at "rF"
 refine min_list_N hA F10 N10 ⟨_,(N10 _ (.head _)).1,rfl,0,rfl⟩ iW (by simp) ?_
 intro h11 Mn tM tk11 F11 N11 hMn hMl
 obtain ⟨th,rfl,ht1,ht2⟩:=yYN hMn hMl
 clear hMn hMl iW iV F10 N10
 replace N11:News b L' h11 [(L'+1,o1)]:=fun q hq=>N11 q (.tail _ (.tail _ (.tail _ hq)))
 walk_at "rF"
 rename_i h12 F12 N12
 refine yDH (M:=M) (th:=th) (A:=A.deeper (envD L')) (QF:=fun f s'=>Q (match f with | .ret v=>v | _=>.none) s') (succ_le_succ hd) (by show A.units+3<=470;exact (jg2 [_] 0xf00001d1d0fa3c0ab00001d6d hu)) hA X T F12 N12 d1 hR hvs h128 hv hw ht1 ht2 (by exact e_z) (by exact e_w) (by exact e_l) (by rfl) h
end c2
theorem tq:yVN.1 L' z.2.1 z.2.2.1 o1 h2 z.2.2.2.2.2.1 tk:=yYe.2 c2.tq
end c1
theorem zh:zP A s b Q zc.2.2.2.2.1 RWS N zc.2.2.2.2.2.2.2.1 vs raw wish t dn M:=yVN.2 c1.tq
end K_law_due
theorem yBE {A s b Q E RWS N cR vs raw wish t dn M}:K_law_due.zP A s b Q E RWS N cR vs raw wish t dn M:=eps (P:=U14 K_law_due.zP) K_law_due.zh (A,s,b,Q,E,RWS,N,cR,vs,raw,wish,t,dn,M)
theorem yBI {dn:Bool}:keepIn (hd01.heap_1 w.params) (.ref (fnA dn))=true:=by
 cases dn
 ·exact (by k_is:keepIn (hd01.heap_1 w.params) (.ref 76)=true)
 ·exact (by k_is:keepIn (hd01.heap_1 w.params) (.ref 82)=true)
theorem yJh {b b2 h0 h':Heap} {L':Addr} {outer:List Env} {m:Str->Option Value} {S':List (Addr×Obj)} (hS:∀ q∈S',h'.get? q.1=some q.2/\q.1≠L'/\b.get? q.1=none/\((∀ d k,q.2.data≠.dict d k)\/q.1 ∉ framesOf outer))
  (ns:h'.Ns L' m) (bst:b.StaysIn h') (hbL:b.objs.size<=L') (frh:yQa outer h0 h') (hlt:∀ a∈framesOf outer,a < L'):
  ∃ B,A5 (Fr B L' h' m) (News B L' h' S') (b.StaysIn B) (yQa outer h0 B) (∀ a o,a < L'->(∀ q∈S',q.1≠a)->h'.get? a=some o->B.get? a=some o):=by
 refine ⟨cut h' L' (S'.map (·.1)),⟨ns,yQS,yJq⟩,fun q hq=>⟨(hS q hq).1,(hS q hq).2.1,yJr (List.mem_map_of_mem hq)⟩,fun a o q=>cut_get (qP (qU q) hbL) (fun z=>?_) (bst _ _ q),fun a ha m n=>?_,fun a o ha hn q=>cut_get ha (fun z=>?_) q⟩
 ·obtain ⟨q',hq',rfl⟩:=wB.mp z
  rw [(hS q' hq').2.2.1] at q;cases q
 ·obtain ⟨o,es,ep,ho,hd,r⟩:=frh a ha m n
  refine ⟨o,es,ep,cut_get (hlt a ha) (fun z=>?_) ho,hd,r⟩
  obtain ⟨q',hq',rfl⟩:=wB.mp z
  have:=hS q' hq'
  rw [this.1] at ho;cases ho
  exact this.2.2.2.elim (fun x=>x _ _ hd) fun x=>x ha
 ·obtain ⟨q',hq',rfl⟩:=wB.mp z
  exact hn q' hq' rfl
theorem yVu {h:Heap} {L a:Addr} {m:Str->Option Value} {o:Obj} (n:h.Ns L m) (g:h.get? a=some o) (hd:∀ d k,o.data≠.dict d k):a≠L:=fun q=>by
 obtain ⟨o,es,ep,ho,hd',_⟩:=n
 rw [q,ho] at g;cases g;exact hd _ _ hd'
theorem yVE {items:Array Value} {c:Nat}:∀ d k,(listOf items c).data≠.dict d k:=fun d k q=>by simp [W.listOf] at q
theorem yZQ.up {b h0 h1:Heap} {SRC LOG:Addr} {kv:Value} {N:Nat} {raw:Nat->Rw} {e rv:Nat->Value} {lo:Obj} {ms0:List (Addr×Obj)} {Rd:Nat->Heap->Prop} (x:yZQ prog w b h0 SRC kv N raw e rv LOG lo ms0 Rd) (k:h0.StaysIn h1):yZQ prog w b h1 SRC kv N raw e rv LOG lo ms0 Rd:=x.imp (fun ⟨fq,fo,LST,cL,a1,a2,a3,a4,a5,a6,a7⟩=>⟨fq,fo,LST,cL,a1,a2,a3,a4,a5,a6.imp id fun ⟨q1,q2⟩=>⟨k _ _ q1,q2⟩,a7⟩) id
namespace K_law_run
def zP (A:Around) (s:Shared) (b:Heap) (Q E:VS) (LOG SRC:Addr) (N:Nat) (raw:Nat->Rw) (e rv:Nat->Value) (wish:Int) (t:Tok) (outer:List Env) (kv:Value) (lo:Obj) (ms0:List (Addr×Obj)) (Rd:Nat->Heap->Prop) (M:Int) (dn:Bool):Prop:=∀ (hd:A.depth<=495) (hu:A.units<=467) (hA:A.handled=none) (hfr:A.frames=some outer) (hff:s.heap.FunFrames b outer) (st:b.StaysIn s.heap) (hsz:b.objs.size<=s.heap.objs.size) (X:(hd01.heap_1 w.params).In b) (T:Top p loose yQv mg mb b) (hms:∀ q∈ms0,A3 (s.heap.get? q.1=some q.2) (b.get? q.1=none) (q.1 ∉ framesOf outer)) (lR:yQU (ms0.map Prod.fst) Rd) (hR0:Rd 0 s.heap) (hway:yZQ prog w b s.heap SRC kv N raw e rv LOG lo ms0 Rd) (h128:N < 128) (hv:yZI N raw rv) (hM:∀ p,p < N->(raw p).t=false->-M<=(raw p).z/\(raw p).z<=M) (aR:yJD (ms0.map Prod.fst) Rd) (h1:∀ D R h' tk c ord m tm,A4 (b.StaysIn h') (b.get? R=none) (b.get? D=none) (yQa outer s.heap h')->(∀ j,j < 2->ord=(ordD (scR dn M raw j) N).take wish.toNat)->(1<=wish->Fst raw N)->h'.get? R=some (listOf (ord.map e).toArray c)->h'.get? D=some { cls:=.type "tuple",data:=.seq #[.str (Str.ofString "told") tm,.ref R] m }->Rd (if 1<=wish then N else 0) h'->Q (.ref D) {s with heap:=h',toks:=tk}) (h2:∀ D j h' tk m t1 t2,A5 (1<=wish) (j < N) (raw j=.thorn) (∀ i,i < j->raw i≠.thorn) (Fst raw j\/(j:Int) < wish)->A3 (b.StaysIn h') (b.get? D=none) (yQa outer s.heap h')->h'.get? D=some { cls:=.type "tuple",data:=.seq #[.str (Str.ofString "thorn") t1,.str (thW j) t2] m }->Rd (j+1) h'->Q (.ref D) {s with heap:=h',toks:=tk}) (h3:∀ D r mm h' tk m t1 t2,1<=wish->Tw dn M raw N wish r mm->A3 (b.StaysIn h') (b.get? D=none) (yQa outer s.heap h')->h'.get? D=some { cls:=.type "tuple",data:=.seq #[.str (Str.ofString "kinds") t1,.str mm t2] m }->Rd r h'->Q (.ref D) {s with heap:=h',toks:=tk}),
  wpAny (model prog w) A (call (.ref 127) [.ref (fnA dn),.int wish t,.ref SRC,kv]) Q E s
def zc:=ep (U20 zP) ⟨({},(start default).1,default,fun O O=>True,fun O O=>True,0,0,0,fun O=>.thorn,fun O=>.none,fun O=>.none,0,0,[],.none,default,[],fun O O=>True,0,true)⟩
def zd1:=zc.2.2.2.2.2.2.2.2
def zd2:=zd1.2.2.2.2.2.2.2.2
def A:=zc.1
def s:=zc.2.1
def b:=zc.2.2.1
def LOG:=zc.2.2.2.2.2.1
def SRC:=zc.2.2.2.2.2.2.1
def N:=zc.2.2.2.2.2.2.2.1
def raw:=zd1.1
def e:=zd1.2.1
def rv:=zd1.2.2.1
def wish:=zd1.2.2.2.1
def t:=zd1.2.2.2.2.1
def outer:=zd1.2.2.2.2.2.1
def kv:=zd1.2.2.2.2.2.2.1
def lo:=zd1.2.2.2.2.2.2.2.1
def ms0:=zd2.1
def Rd:=zd2.2.1
def M:=zd2.2.2.1
def dn:=zd2.2.2.2
def yVN:Σ' R:Addr->Heap->Prop,U2 R (ep (U2 R) ⟨(0,default)⟩)->zP A s b zc.2.2.2.1 zc.2.2.2.2.1 LOG SRC N raw e rv wish t outer kv lo ms0 Rd M dn:=⟨_,fun hq1=>by
 intro hd hu hA hfr hff st hsz X T hms lR hR0 hway h128 hv hM aR h1 h2 h3
 obtain ⟨L',hL'⟩:∃ L':Addr,L'=s.heap.objs.size:=⟨_,rfl⟩
 refine wpAny_call ?_
 walk_at "en"
 intro ha1 F hk
 rw [<- hL'] at F ⊢
 revert hd hu hA hfr hff st hsz X T hms lR hR0 hway h128 hv hM aR h1 h2 h3 hL' F hk
 revert L' ha1
 exact eP2 hq1⟩
namespace c1
def z:=ep (U2 yVN.1) ⟨(0,default)⟩
def L':=z.1
def ha1:=z.2
def yYe:Σ' R:Nat->Nat->Addr->Heap->Nat->Heap->Addr->Tok->Heap->Heap->Prop,U10 R (ep (U10 R) ⟨(0,0,0,default,0,default,0,0,default,default)⟩)->Σ' R:Nat->Nat->Addr->Heap->Nat->Heap->Addr->Str->Tok->Heap->Heap->Prop,U11 R (ep (U11 R) ⟨(0,0,0,default,0,default,0,default,0,default,default)⟩)->yVN.1 L' ha1:=⟨_,fun hq2=>⟨_,fun hq3=>by
 intro hd hu hA hfr hff st hsz X T hms lR hR0 hway h128 hv hM aR h1 h2 h3 hL' F hk
 have N0:News b L' ha1 []:=News.nil
 (try k_fold)
 walk_at "rB"
 refine callWith_KW X yBI (by exact rfl) ?_
 walk_at "rB"
 show wpAny _ _ (call (.ref (fnA dn)) [.int wish t,.ref SRC] [(Str.ofString "key",kv)]) _ _ _
 have hbL:b.get? L'=none:=qV (by rw [hL'];exact hsz)
 have hszL:b.objs.size<=L':=by rw [hL'];exact hsz
 have frlt:∀ a∈framesOf outer,a < L':=fun a ha=>by obtain ⟨_,o,ho,_⟩:=hff.mem ha;rw [hL'];exact qU ho
 have hmsL:∀ q∈ms0,q.1 < L':=fun q hq=>by obtain ⟨q1,_⟩:=hms q hq;rw [hL'];exact qU q1
 have hms':∀ a∈ms0.map Prod.fst,a < L'/\b.get? a=none:=fun a ha=>by
  obtain ⟨q,hq,rfl⟩:=wB.mp ha
  obtain ⟨_,q2,_⟩:=hms q hq
  exact ⟨hmsL q hq,q2⟩
 have up:∀ r h,Rd r h->∃ ms1:List (Addr×Obj),A3 (ms1.map Prod.fst=ms0.map Prod.fst) (∀ q∈ms1,h.get? q.1=some q.2) (∀ h',(∀ q∈ms1,h'.get? q.1=some q.2)->Rd r h'):=fun r h hr=>by
  obtain ⟨ms1,e1,g1⟩:=yJy (aR _ _ hr)
  exact ⟨ms1,e1,g1,fun h' k=>lR _ _ _ hr fun a ha o q=>by
   rw [<- e1] at ha
   obtain ⟨z,hz,rfl⟩:=wB.mp ha
   rw [g1 z hz] at q;cases q;exact k z hz⟩
 have hb2:∀ (env:Env) (b2:Heap),env.frame=some L'->(fb b (env::outer)).StaysIn b2->b.StaysIn b2:=fun env b2 hf z a o q=>z _ _ (vJ _ q fun ha=>by
  rw [yQh hf] at ha
  rcases qG.mp ha with r | ha
  ·rw [r,hbL] at q;cases q
  ·rw [(hff.mem ha).1] at q;cases q)
 have off1:∀ ms1:List (Addr×Obj),ms1.map Prod.fst=ms0.map Prod.fst->∀ q∈ms1,q.1≠L'/\b.get? q.1=none/\((∀ d k,q.2.data≠.dict d k)\/q.1 ∉ framesOf outer):=fun ms1 e1 q hq=>by
  have ha:q.1∈ms1.map Prod.fst:=List.mem_map_of_mem hq
  rw [e1] at ha
  obtain ⟨x1,x2⟩:=hms' _ ha
  obtain ⟨z,hz,e⟩:=wB.mp ha
  obtain ⟨_,_,q3⟩:=hms z hz
  exact ⟨vB x1,x2,.inr (by rw [<- e];exact q3)⟩
 refine yCF (b:=b) (N:=N) (e:=e) (rv:=rv) (raw:=raw) (M:=M) (LOG:=LOG) (lo:=lo) (ms0:=ms0) (Rd:=Rd) (by show A.depth+1<=496;exact (jg2 [_] 0xf00001efd0fab0ab00001f0d hd)) (by show A.units+3<=470;exact (jg2 [_] 0xf00001d3d0fa3c0ab00001d6d hu)) hA (vO hfr) (Heap.FunFrames.cons (by intro q;cases q) rfl F.ns hbL (ff_keep hff hk)) F.keep (qZ F.above (wM F.ns.lt)) X T (fun q hq=>by
  obtain ⟨q1,q2,q3⟩:=hms q hq
  refine ⟨hk _ _ q1,q2,fun z=>?_⟩
  rcases qG.mp (show q.1∈L'::framesOf outer from (by rw [yQh (by rfl)] at z;exact z)) with r | r
  ·have:=hmsL q hq;rw [r] at this;exact lt_irrefl _ this
  ·exact q3 r) lR (lR _ _ _ hR0 fun a _ o q=>hk _ _ q) (hway.up hk) h128 hv hM ?_ ?_ ?_
 ·intro R h5 tk5 c5 ord st5 nR ho hF gR hRd fr5
  have ns5:=fr5 L' (framesOf_mem _ (.head _) L' rfl) _ F.ns
  obtain ⟨ms1,e1,g1,u1⟩:=up _ _ hRd
  obtain ⟨B,F5,N5,stB,frB,_⟩:=yJh (b:=b) (b2:=b) (h0:=s.heap) (S':=(R,listOf (ord.map e).toArray c5)::ms1) (fun q hq=>by
   rcases qG.mp hq with rfl | hq
   ·exact ⟨gR,yVu ns5 gR yVE,nR,.inl yVE⟩
   ·exact ⟨g1 q hq,off1 ms1 e1 q hq⟩) ns5 st5 hszL ((yQa.of_keeps hk).trans fr5.tail) frlt
  walk_at "rB"
  rename_i D h6 F6 N6 _
  exact h1 D R h6 _ _ ord _ _ ⟨fun a o q=>F6.keep _ _ (stB _ _ q),nR,none_sub stB (N6 _ (.head _)).2.2,frB.trans (yQa.of_keeps F6.keep)⟩ ho hF (N6 _ (.tail _ (.head _))).1 (N6 _ (.head _)).1 (u1 _ fun q hq=>(N6 q (.tail _ (.tail _ hq))).1)
 ·rintro j ex g3 tk3 b2 ⟨hw,hj,hth,hlt,hor,hb⟩ hRd fl
  have hbb:=hb2 _ b2 (by rfl) hb
  obtain ⟨t3,m3,tm,f1,f2,rfl,f4,f5⟩:=fl
  refine wpAny_looks_onW (vO hfr) rfl f1 fun h4 x1 x2=>?_
  refine wpAny_landsW x1 fun h5 y1 y2=>?_
  clear hd hA hfr hff st hsz hms lR hR0 hway h128 hv hM aR h1 h3 hL' N0 hbL hmsL hms' hb2 hb f1 x1
  revert hu X T h2 F hk hszL frlt up off1 hw hj hth hlt hor hRd hbb f4 f5 f2 x2 y1 y2
  revert tk j ex g3 tk3 b2 t3 tm h4 h5
  exact eP10 hq2
 ·rintro r mm ex g3 tk3 b2 ⟨hw,htw,hb⟩ hRd fl
  have hbb:=hb2 _ b2 (by rfl) hb
  obtain ⟨t3,m3,tm,f1,f2,rfl,f4,f5⟩:=fl
  refine wpAny_looks_onW (vO hfr) rfl f1 fun h4 x1 x2=>?_
  refine wpAny_landsW x1 fun h5 y1 y2=>?_
  clear hd hA hfr hff st hsz hms lR hR0 hway h128 hv hM aR h1 h2 hL' N0 hbL hmsL hms' hb2 hb f1 x1
  revert hu X T h3 F hk hszL frlt up off1 hw hRd hbb f2 f4 f5 htw x2 y1 y2
  revert tk r ex g3 tk3 b2 t3 m3 tm h4 h5
  exact eP11 hq3⟩⟩
namespace c2
def z:=ep (U10 yYe.1) ⟨(0,0,0,default,0,default,0,0,default,default)⟩
def j:=z.2.1
def ex:=z.2.2.1
def b2:=z.2.2.2.2.2.1
def t3:=z.2.2.2.2.2.2.1
def y1:=z.2.2.2.2.2.2.2.2
def h5:=y1.2
theorem tq:yYe.1 z.1 j ex z.2.2.2.1 z.2.2.2.2.1 b2 t3 z.2.2.2.2.2.2.2.1 y1.1 h5:=by
 intro hu X T h2 F hk hszL frlt up off1 hw hj hth hlt hor hRd hbb f4 f5 f2 x2 y1 y2
 have sl5:=x2.trans y2
 have ns5:=sl5.ns (f5 L' (framesOf_mem _ (.head _) L' rfl) _ F.ns)
 have F5:Fr b L' h5 _:=⟨ns5,fun a o q=>y1.1 _ _ (hbb _ _ q),hszL⟩
 have N5:News b L' h5 []:=News.nil
 refine wpAny_handleBy_builtin_as (T:="ValueError") (X:="ValueError") (b:=true) (vW (by decide +kernel)) (vW (by decide +kernel)) (vW (by decide +kernel)) ?_
 clear F
 walk_at "rB"
 ·exact y1.there
 refine wpAny_setFlight_noneW y1.1 y1.2.2.1 y1.2.2.2 fun h6 m1 m2 m3' m4=>?_
 have sl6:h5.UpToSlots h6:=fun b o hb hn=>⟨o.slots,m4 b o hb hn⟩
 have ns6:=sl6.ns ns5
 obtain ⟨oe,vs,TT,oT,ts,ge,⟨hcls,hv0⟩,hdt,_⟩:=m3'
 obtain ⟨ot,nt,gt,htc,htd⟩:=(f2.of_slots sl5).of_slots sl6
 obtain ⟨ms1,e1,g1,u1⟩:=up _ _ hRd
 have nex:=y1.2.1
 obtain ⟨B,F6,N6,stB,frB,keepB⟩:=yJh (b:=b) (b2:=b) (h0:=s.heap) (S':=(ex,oe)::(t3,ot)::ms1) (fun q hq=>by
  rcases qG.mp hq with rfl | hq
  ·have hd:∀ d k,oe.data≠.dict d k:=fun d k q=>by rw [hdt] at q;cases q
   exact ⟨ge,yVu ns6 ge hd,none_sub hbb nex,.inl hd⟩
  rcases qG.mp hq with rfl | hq
  ·have hd:∀ d k,ot.data≠.dict d k:=fun d k q=>by rw [htd] at q;cases q
   exact ⟨gt,yVu ns6 gt hd,none_sub hbb f4,.inl hd⟩
  ·exact ⟨m1 _ _ (g1 q hq),off1 ms1 e1 q hq⟩) ns6 (fun a o q=>m1 _ _ (hbb _ _ q)) hszL ((yQa.of_keeps hk).trans (f5.tail.trans ((yQa.of_slots sl5).trans (yQa.of_slots sl6)))) frlt
 have XB:=X.keeps stB
 have TB:=T.keeps stB
 clear F5 N5
 walk_at "rB"
 rename_i h7 F7 N7
 refine wJ F.excStr_ValueError (by show A.units+3+2 < cLine;simp [cLine];exact (jl2 [_] 0xf00001d3d0fa2ca3c000026acd hu)) ⟨oe,vs,(N7 _ (.head _)).1,hcls,hdt,hv0⟩ ⟨ot,nt,(N7 _ (.tail _ (.head _))).1,htc,htd⟩ ?_
 walk_at "rB"
 rename_i D h8 F8 N8 _ h9 v9 F9 N9
 have z:=N9 _ (.head _)
 exact h2 D j h9 _ _ _ _ ⟨hw,hj,hth,hlt,hor⟩ ⟨fun a o q=>F9.keep _ _ (stB _ _ q),none_sub stB z.2.2,frB.trans (yQa.of_keeps F9.keep)⟩ z.1 (u1 _ fun q hq=>(N9 q (.tail _ (.tail _ (.tail _ hq)))).1)
end c2
def yDr:=yYe.2 c2.tq
namespace c3
def z:=ep (U11 yDr.1) ⟨(0,0,0,default,0,default,0,default,0,default,default)⟩
def r:=z.2.1
def ex:=z.2.2.1
def b2:=z.2.2.2.2.2.1
def t3:=z.2.2.2.2.2.2.1
def y1:=z.2.2.2.2.2.2.2.2
def h5:=y1.2.2
theorem tq:yDr.1 z.1 r ex z.2.2.2.1 z.2.2.2.2.1 b2 t3 z.2.2.2.2.2.2.2.1 y1.1 y1.2.1 h5:=by
 intro hu X T h3 F hk hszL frlt up off1 hw hRd hbb f2 f4 f5 htw x2 y1 y2
 have sl5:=x2.trans y2
 have ns5:=sl5.ns (f5 L' (framesOf_mem _ (.head _) L' rfl) _ F.ns)
 have F5:Fr b L' h5 _:=⟨ns5,fun a o q=>y1.1 _ _ (hbb _ _ q),hszL⟩
 have N5:News b L' h5 []:=News.nil
 refine wpAny_handleBy_builtin_as (T:="ValueError") (X:="TypeError") (b:=false) (vW (by decide +kernel)) (vW (by decide +kernel)) (vW (by decide +kernel)) ?_
 clear F
 walk_at "rB"
 ·exact y1.there
 refine wpAny_handleBy_builtin_as (T:="TypeError") (X:="TypeError") (b:=true) (vW (by decide +kernel)) (vW (by decide +kernel)) (vW (by decide +kernel)) ?_
 walk_at "rB"
 ·exact y1.there
 refine wpAny_setFlight_noneW y1.1 y1.2.2.1 y1.2.2.2 fun h6 m1 m2 m3' m4=>?_
 have sl6:h5.UpToSlots h6:=fun b o hb hn=>⟨o.slots,m4 b o hb hn⟩
 have ns6:=sl6.ns ns5
 obtain ⟨oe,vs,TT,oT,ts,ge,⟨hcls,hv0⟩,hdt,_⟩:=m3'
 obtain ⟨ot,nt,gt,htc,htd⟩:=(f2.of_slots sl5).of_slots sl6
 obtain ⟨ms1,e1,g1,u1⟩:=up _ _ hRd
 have nex:=y1.2.1
 obtain ⟨B,F6,N6,stB,frB,keepB⟩:=yJh (b:=b) (b2:=b) (h0:=s.heap) (S':=(ex,oe)::(t3,ot)::ms1) (fun q hq=>by
  rcases qG.mp hq with rfl | hq
  ·have hd:∀ d k,oe.data≠.dict d k:=fun d k q=>by rw [hdt] at q;cases q
   exact ⟨ge,yVu ns6 ge hd,none_sub hbb nex,.inl hd⟩
  rcases qG.mp hq with rfl | hq
  ·have hd:∀ d k,ot.data≠.dict d k:=fun d k q=>by rw [htd] at q;cases q
   exact ⟨gt,yVu ns6 gt hd,none_sub hbb f4,.inl hd⟩
  ·exact ⟨m1 _ _ (g1 q hq),off1 ms1 e1 q hq⟩) ns6 (fun a o q=>m1 _ _ (hbb _ _ q)) hszL ((yQa.of_keeps hk).trans (f5.tail.trans ((yQa.of_slots sl5).trans (yQa.of_slots sl6)))) frlt
 have XB:=X.keeps stB
 have TB:=T.keeps stB
 clear F5 N5
 walk_at "rB"
 rename_i h7 F7 N7
 refine wJ F.excStr_TypeError (by show A.units+3+2 < cLine;simp [cLine];exact (jl2 [_] 0xf00001d3d0fa2ca3c000026acd hu)) ⟨oe,vs,(N7 _ (.head _)).1,hcls,hdt,hv0⟩ ⟨ot,nt,(N7 _ (.tail _ (.head _))).1,htc,htd⟩ ?_
 walk_at "rB"
 rename_i D h8 F8 N8 _ h9 v9 F9 N9
 have z:=N9 _ (.head _)
 exact h3 D r _ h9 _ _ _ _ hw htw ⟨fun a o q=>F9.keep _ _ (stB _ _ q),none_sub stB z.2.2,frB.trans (yQa.of_keeps F9.keep)⟩ z.1 (u1 _ fun q hq=>(N9 q (.tail _ (.tail _ (.tail _ hq)))).1)
end c3
theorem tq:yVN.1 L' ha1:=yDr.2 c3.tq
end c1
theorem zh:zP A s b zc.2.2.2.1 zc.2.2.2.2.1 LOG SRC N raw e rv wish t outer kv lo ms0 Rd M dn:=yVN.2 c1.tq
end K_law_run
theorem yBC {A s b Q E LOG SRC N raw e rv wish t outer kv lo ms0 Rd M dn}:K_law_run.zP A s b Q E LOG SRC N raw e rv wish t outer kv lo ms0 Rd M dn:=eps (P:=U20 K_law_run.zP) K_law_run.zh (A,s,b,Q,E,LOG,SRC,N,raw,e,rv,wish,t,outer,kv,lo,ms0,Rd,M,dn)
noncomputable def yQg:Str:=(Str.ofString "law"++".<locals>.")++"<lambda>"
noncomputable abbrev lamScope (x:Str):Scope:={ kind:=.function,names:=[(x,.local),(Str.ofString "log",.free),(Str.ofString "raws",.free),(Str.ofString "_law_worth",.globalImplicit)],isGenerator:=false,isCoroutine:=false }
noncomputable abbrev lamPar (x:Str) (pp:Pos):Arguments:={ posonlyargs:=[],args:=[{ arg:=x,annotation:=none,pos:=pp }],vararg:=none,kwonlyargs:=[],kw_defaults:=[],kwarg:=none,defaults:=[] }
noncomputable abbrev lamBody (ex:PySem.Expr) (p1 p2 p3 p4:Pos):PySem.Expr:=.Call (.Name (Str.ofString "_law_worth") p1) [.Name (Str.ofString "log") p2,.Name (Str.ofString "raws") p3,ex] [] p4
noncomputable abbrev lamClos (cL cR:Addr):List (Str×Addr):=[(Str.ofString "raws",cR),(Str.ofString "log",cL)]
noncomputable abbrev thingEx (q1 q2 q3:Pos):PySem.Expr:=.Subscript (.Name (Str.ofString "thing") q1) (.Constant (.int 0) 0 q2) q3
def yCZ (b:Heap) (x:Str) (ex:PySem.Expr) (f cL cR LOG RWS:Addr):Prop:=
 X7 fun pp p1 p2 p3 p4 pm c'=>X6 fun oc vs t ctv oL oR=>A8 (b.get? f=some (kla_obj "<lambda>" yQg (lamPar x pp) (lamBody ex p1 p2 p3 p4) (lamScope x) (lamClos cL cR) pm c' ctv)) (b.get? c'=some oc) (oc.data=.fields vs) (vs[1]?=some (.str yQg t)) (b.get? cL=some oL) (oL.data=.cell (some (.ref LOG))) (b.get? cR=some oR) (oR.data=.cell (some (.ref RWS)))
section
variable {A:Around} {s:Shared} {b:Heap} {Q:VS} {E:VS}
theorem yAu {f cL cR LOG RWS:Addr} {N cRw:Nat} {vs:List Value} {raw:Nat->Rw} {e:Nat->Value} (X:(hd01.heap_1 w.params).In b) (T:Top p loose yQv mg mb b) {q1 q2 q3:Pos}
  (hl:yCZ b (Str.ofString "thing") (thingEx q1 q2 q3) f cL cR LOG RWS) (hR:b.get? RWS=some (listOf vs.toArray cRw)) (hvs:vs.length=N) (h128:N < 128) (hv:∀ j,j < N->IsR (vs.getD j .none) (raw j))
  (he:∀ j,j < N->X3 fun a t c=>e j=.ref a/\b.get? a=some (listOf #[.int (j:Int) t] c)):yZR prog w b LOG N raw (fun j x=>x=e j) (fun j=>vs.getD j .none) f:=by
 rintro j x A outer b' s Q E hj rfl hd hu hh hfr hff st st' hsz hLb hLG hQ hE
 obtain ⟨pp,p1,p2,p3,p4,pm,c',oc,vsc,tc,ctv,oL,oR,gf,gc,hdc,hvc,gL,dL,gR,dR⟩:=hl
 obtain ⟨a,t,ca,hea,ga⟩:=he j hj
 rw [hea]
 have stb:=fun a o (q:b.get? a=some o)=>st' _ _ (st _ _ q)
 refine wpAny_call ?_
 refine kla_callFunE (vR hd (by decide)) (stb _ _ gf) rfl rfl rfl rfl ⟨c',oc,vsc,tc,rfl,stb _ _ gc,hdc,hvc⟩ ?_
 refine wN (a:=[(Str.ofString "thing",.ref a)]) (by rfl) ?_
 obtain ⟨L',hL'⟩:∃ L':Addr,L'=s.heap.objs.size:=⟨_,rfl⟩
 refine wpAny_newFunctionEnv (fun y hy=>by simp only [qG,wG,or_false] at hy;rcases hy with rfl | rfl | rfl | rfl<;>(intro q;cases q)) (locs rfl) (fun ha1 hns hsb=>⟨((T.nolimit.keeps st).keeps st').fresh _ hsb,kla_codeExpr ?_⟩) rfl
 rw [<- hL'] at hns hsb ⊢
 have F:Fr b' L' ha1 _:=⟨hns,fun x o q=>hsb.extBut x o (by rw [hL'];exact vB (qU (st' _ _ q))) (qS _ (st' _ _ q)),by rw [hL'];exact hsz⟩
 show wpAny _ (A.deeper (envX yQg (lamScope (Str.ofString "thing")) L' f (.ref c') (lamClos cL cR))) (eval _ (envX yQg (lamScope (Str.ofString "thing")) L' f (.ref c') (lamClos cL cR))) _ _ _
 have X':=X.keeps st
 have T':=T.keeps st
 have off:∀ x∈[LOG],x≠L'/\b'.get? x=none:=fun x hx=>by
  rw [qC.mp hx]
  obtain ⟨lo,g,_⟩:=hLG
  exact ⟨by rw [hL'];exact vB (qU g),hLb⟩
 have stM:b'.StaysIn (hideAll ha1 [LOG]):=fun a o q=>vJ _ (F.keep _ _ q) fun z=>by rw [(off _ z).2] at q;cases q
 have hLG1:LG LOG j ha1:=yVG _ _ _ hLG fun a ha o q=>hsb.extBut a o (by rw [hL'];exact vB (qU q)) (qS _ q)
 have k1:=fun a o (q:b.get? a=some o)=>F.keep _ _ (st _ _ q)
 walk_at "rI"
 refine wpAny_Name (wpAny_loadName_free (c:=cL) rfl rfl (by rfl) ⟨oL,k1 _ _ gL,dL⟩ ?_) (by decide)
 walk_at "rI"
 refine wpAny_Name (wpAny_loadName_free (c:=cR) rfl rfl (by rfl) ⟨oR,k1 _ _ gR,dR⟩ ?_) (by decide)
 walk_at "rI"
 refine yQf (k1 _ _ ga) (by decide) (by decide) rfl ?_
 walk_at "rI"
 refine yWk (b:=hideAll ha1 [LOG]) (LOG:=LOG) (RWS:=RWS) (j:=j) (N:=N) (raw:=raw) (succ_le_succ hd) (by show A.units+3<=810;lia) hh (vO hfr) (ff_call F hff off rfl rfl) (fun _ _ q=>vL _ q) (by rw [hideAll_size];exact vC _) (X'.keeps stM) (T'.keeps stM) (stM _ _ (st _ _ hR)) hvs hj h128 (vK _ (.head _)) hLG1 (hv j hj) ?_ ?_
 ·intro h' tk q1 q2 q3
  exact hQ h' tk q1 (fun _ _ z=>q2 _ _ (stM _ _ z)) q3
 ·intro ex h' tk b2 q1 q2 q3 q4
  exact yWu (Rd:=LG LOG) (r:=j+1) (B':=ha1) (L:=L') (fun ex h' tk b2 x1 x2 x3=>hE ex h' tk b2 q1 x1 x2 x3) hfr ⟨fun _ _ q=>q,framed_b hff st' (fun _ _ q=>q),hff,qV F.above⟩ (fun _ _ z=>q2 _ _ (fb_sub F (fun x hx=>(off x hx).2) (by rfl) _ _ z)) q3 q4 (yQa.of_keeps F.keep)
theorem yAf {f cL cR LOG RWS:Addr} {N cRw:Nat} {vs:List Value} {raw:Nat->Rw} (X:(hd01.heap_1 w.params).In b) (T:Top p loose yQv mg mb b)  {q1:Pos}
  (hl:yCZ b (Str.ofString "k") (.Name (Str.ofString "k") q1) f cL cR LOG RWS) (hR:b.get? RWS=some (listOf vs.toArray cRw)) (hvs:vs.length=N) (h128:N < 128) (hv:∀ j,j < N->IsR (vs.getD j .none) (raw j)):yZR prog w b LOG N raw (fun j x=>∃ t,x=.int j t) (fun j=>vs.getD j .none) f:=by
 rintro j x A outer b' s Q E hj ⟨t,rfl⟩ hd hu hh hfr hff st st' hsz hLb hLG hQ hE
 obtain ⟨pp,p1,p2,p3,p4,pm,c',oc,vsc,tc,ctv,oL,oR,gf,gc,hdc,hvc,gL,dL,gR,dR⟩:=hl
 have stb:=fun a o (q:b.get? a=some o)=>st' _ _ (st _ _ q)
 refine wpAny_call ?_
 refine kla_callFunE (vR hd (by decide)) (stb _ _ gf) rfl rfl rfl rfl ⟨c',oc,vsc,tc,rfl,stb _ _ gc,hdc,hvc⟩ ?_
 refine wN (a:=[(Str.ofString "k",.int j t)]) (by rfl) ?_
 obtain ⟨L',hL'⟩:∃ L':Addr,L'=s.heap.objs.size:=⟨_,rfl⟩
 refine wpAny_newFunctionEnv (fun y hy=>by simp only [qG,wG,or_false] at hy;rcases hy with rfl | rfl | rfl | rfl<;>(intro q;cases q)) (locs rfl) (fun ha1 hns hsb=>⟨((T.nolimit.keeps st).keeps st').fresh _ hsb,kla_codeExpr ?_⟩) rfl
 rw [<- hL'] at hns hsb ⊢
 have F:Fr b' L' ha1 _:=⟨hns,fun x o q=>hsb.extBut x o (by rw [hL'];exact vB (qU (st' _ _ q))) (qS _ (st' _ _ q)),by rw [hL'];exact hsz⟩
 show wpAny _ (A.deeper (envX yQg (lamScope (Str.ofString "k")) L' f (.ref c') (lamClos cL cR))) (eval _ (envX yQg (lamScope (Str.ofString "k")) L' f (.ref c') (lamClos cL cR))) _ _ _
 have X':=X.keeps st
 have T':=T.keeps st
 have off:∀ x∈[LOG],x≠L'/\b'.get? x=none:=fun x hx=>by
  rw [qC.mp hx]
  obtain ⟨lo,g,_⟩:=hLG
  exact ⟨by rw [hL'];exact vB (qU g),hLb⟩
 have stM:b'.StaysIn (hideAll ha1 [LOG]):=fun a o q=>vJ _ (F.keep _ _ q) fun z=>by rw [(off _ z).2] at q;cases q
 have hLG1:LG LOG j ha1:=yVG _ _ _ hLG fun a ha o q=>hsb.extBut a o (by rw [hL'];exact vB (qU q)) (qS _ q)
 have k1:=fun a o (q:b.get? a=some o)=>F.keep _ _ (st _ _ q)
 walk_at "rI"
 refine wpAny_Name (wpAny_loadName_free (c:=cL) rfl rfl (by rfl) ⟨oL,k1 _ _ gL,dL⟩ ?_) (by decide)
 walk_at "rI"
 refine wpAny_Name (wpAny_loadName_free (c:=cR) rfl rfl (by rfl) ⟨oR,k1 _ _ gR,dR⟩ ?_) (by decide)
 walk_at "rI"
 refine yWk (b:=hideAll ha1 [LOG]) (LOG:=LOG) (RWS:=RWS) (j:=j) (N:=N) (raw:=raw) (succ_le_succ hd) (by show A.units+3<=810;lia) hh (vO hfr) (ff_call F hff off rfl rfl) (fun _ _ q=>vL _ q) (by rw [hideAll_size];exact vC _) (X'.keeps stM) (T'.keeps stM) (stM _ _ (st _ _ hR)) hvs hj h128 (vK _ (.head _)) hLG1 (hv j hj) ?_ ?_
 ·intro h' tk q1 q2 q3
  exact hQ h' tk q1 (fun _ _ z=>q2 _ _ (stM _ _ z)) q3
 ·intro ex h' tk b2 q1 q2 q3 q4
  exact yWu (Rd:=LG LOG) (r:=j+1) (B':=ha1) (L:=L') (fun ex h' tk b2 x1 x2 x3=>hE ex h' tk b2 q1 x1 x2 x3) hfr ⟨fun _ _ q=>q,framed_b hff st' (fun _ _ q=>q),hff,qV F.above⟩ (fun _ _ z=>q2 _ _ (fb_sub F (fun x hx=>(off x hx).2) (by rfl) _ _ z)) q3 q4 (yQa.of_keeps F.keep)
end
noncomputable def yYY:Stmt:=(PySem.Challenge.rw_dp0046_01.prog.main.body.reverse).getD 0 (.Pass ⟨0,0,0,0⟩)
noncomputable def yWO:List Stmt:=stB yYY
noncomputable def yVF:Scope:=stS yYY
noncomputable def yJX:List Stmt:=stB (yWO.getD 4 (.Pass ⟨0,0,0,0⟩))
noncomputable def yQb:List Stmt:=stB (yJX.getD 1 (.Pass ⟨0,0,0,0⟩))
noncomputable abbrev envW (L fa:Addr):Env:=envOfC (Str.ofString "law") yVF L fa (.ref 131)
def yXA (q:Addr×Obj):Prop:=X2 fun vs t=>A3 (q.1≠129) (q.2.data=.fields vs) (vs[1]?=some (.str yQg t))
def yVm (ps:Array Value) (cds:List (Addr×Obj)):Prop:=(ps=#[]/\cds=[])\/(∃ q,A3 (ps=#[rawInt 230,rawInt 18,.ref q.1]) (cds=[q]) (yXA q))\/X2 fun q r=>A4 (ps=#[rawInt 230,rawInt 18,.ref q.1,rawInt 233,rawInt 29,.ref r.1]) (cds=[r,q]) (yXA q) (yXA r)
theorem yVm.code {ps:Array Value} {cds:List (Addr×Obj)} (h:yVm ps cds):∀ q∈cds,yXA q:=by
 rcases h with ⟨_,rfl⟩ | ⟨q,_,rfl,hq⟩ | ⟨q,r,_,rfl,hq,hr⟩
 ·exact fun _ z=>nomatch z
 ·intro x hx;rw [qC.mp hx];exact hq
 ·intro x hx
  simp only [qG,wG,or_false] at hx
  rcases hx with rfl | rfl
  ·exact hr
  ·exact hq
section
variable {A:Around} {s:Shared} {b:Heap} {Q:VS} {E:VS}
theorem yBH {L fa:Addr} {m:Str->Option Value} {params:Arguments} {body:PySem.Expr} {scope:Scope} {pos:Pos} {ps:Array Value} {cds others:List (Addr×Obj)} {clos:List (Str×Addr)}
  (F:Fr b L s.heap m) (N:News b L s.heap ((129,tabObj ps)::(cds++others))) (T:Top p loose yQv mg mb b) (C:CodeHd b 131 129) (htab:yVm ps cds) (hoff:∀ q∈others,q.1≠129)
  (hdef:defaultsOf params (envW L fa)=([],[])) (hcl:closureFor scope (envW L fa)=pure clos) (hline:pos.line=230) (hcol:pos.col=18)
  (h:∀ f q ps' yQn pm ctv h' tk,Fr b L h' m->News b L h' ((f,kla_obj "<lambda>" yQg params body scope clos pm q.1 ctv)::(129,tabObj ps')::(yQn++others))->yVm ps' yQn->yQn≠[]->q∈yQn->Q (.ref f) {s with heap:=h',toks:=tk}):
  wpAny (model prog w) A (eval (.Lambda params body scope pos) (envW L fa)) Q E s:=by
 refine kla_eval hdef ?_
 have hoff2:∀ q∈cds++others,q.1≠129:=fun q hq=>by
  rcases qF.mp hq with hq | hq
  ·obtain ⟨_,_,z,_⟩:=htab.code q hq;exact z
  ·exact hoff q hq
 rcases htab with ⟨rfl,rfl⟩ | ⟨q,rfl,rfl,hq⟩ | ⟨q,r,rfl,rfl,hq,hr⟩
 ·refine kla_nest F N T C rfl (.head hoff2) trivial rfl hcl ?_
  intro f c' oc vs t ctv h' tk F' N' d1 d2 l1 _
  rw [hline,hcol] at N'
  refine h f (c',oc) _ [(c',oc)] ((mg "__name__").getD .none) ctv h' tk F' (fun q hq=>N' q ?_) (.inr (.inl ⟨(c',oc),rfl,rfl,vs,t,ne_of_gt (l1 (129,_) (.head _)),d1,d2⟩)) (by simp) (.head _)
  simp only [qG,qF,wG,or_false,false_or] at hq ⊢
  rcases hq with hq | hq | hq | hq
  ·exact .inl hq
  ·exact .inr (.inr (.inl hq))
  ·exact .inr (.inl hq)
  ·exact .inr (.inr (.inr hq))
 ·refine kla_hit (c':=q.1) F N T C rfl (.head _) ?_ ?_ hcl ?_
  ·trivial
  ·simp [codeAmong,rawInt,hline,hcol]
  intro f ctv h' tk F' N' _
  exact h f q _ [q] ((mg "__name__").getD .none) ctv h' tk F' N' (.inr (.inl ⟨q,rfl,rfl,hq⟩)) (by simp) (.head _)
 ·refine kla_hit (c':=q.1) F N T C rfl (.head _) ?_ ?_ hcl ?_
  ·trivial
  ·simp [codeAmong,rawInt,hline,hcol]
  intro f ctv h' tk F' N' _
  exact h f q _ [r,q] ((mg "__name__").getD .none) ctv h' tk F' N' (.inr (.inr ⟨q,r,rfl,rfl,hq,hr⟩)) (by simp) (.tail _ (.head _))
theorem yBG {L fa:Addr} {m:Str->Option Value} {params:Arguments} {body:PySem.Expr} {scope:Scope} {pos:Pos} {ps:Array Value} {cds others:List (Addr×Obj)} {clos:List (Str×Addr)}
  (F:Fr b L s.heap m) (N:News b L s.heap ((129,tabObj ps)::(cds++others))) (T:Top p loose yQv mg mb b) (C:CodeHd b 131 129) (htab:yVm ps cds) (hne:cds≠[]) (hoff:∀ q∈others,q.1≠129)
  (hdef:defaultsOf params (envW L fa)=([],[])) (hcl:closureFor scope (envW L fa)=pure clos) (hline:pos.line=233) (hcol:pos.col=29)
  (h:∀ f q ps' yQn pm ctv h' tk,Fr b L h' m->News b L h' ((f,kla_obj "<lambda>" yQg params body scope clos pm q.1 ctv)::(129,tabObj ps')::(yQn++others))->yVm ps' yQn->yQn≠[]->q∈yQn->(∀ q∈cds,q∈yQn)->Q (.ref f) {s with heap:=h',toks:=tk}):
  wpAny (model prog w) A (eval (.Lambda params body scope pos) (envW L fa)) Q E s:=by
 refine kla_eval hdef ?_
 have hoff2:∀ q∈cds++others,q.1≠129:=fun q hq=>by
  rcases qF.mp hq with hq | hq
  ·obtain ⟨_,_,z,_⟩:=htab.code q hq;exact z
  ·exact hoff q hq
 rcases htab with ⟨rfl,rfl⟩ | ⟨q,rfl,rfl,hq⟩ | ⟨q,r,rfl,rfl,hq,hr⟩
 ·exact absurd rfl hne
 ·refine kla_nest F N T C rfl (.head hoff2) ?_ ?_ hcl ?_
  ·trivial
  ·simp [codeAmong,rawInt,hline,hcol]
  intro f c' oc vs t ctv h' tk F' N' d1 d2 l1 _
  rw [hline,hcol] at N'
  refine h f (c',oc) _ [(c',oc),q] ((mg "__name__").getD .none) ctv h' tk F' (fun x hx=>N' x ?_) (.inr (.inr ⟨q,(c',oc),rfl,rfl,hq,vs,t,ne_of_gt (l1 (129,_) (.head _)),d1,d2⟩)) (by simp) (.head _) (fun x hx=>.tail _ hx)
  simp only [qG,qF,wG,or_false,false_or] at hx ⊢
  rcases hx with hq | hq | (hq | hq) | hq
  ·exact .inl hq
  ·exact .inr (.inr (.inl hq))
  ·exact .inr (.inl hq)
  ·exact .inr (.inr (.inr (.inl hq)))
  ·exact .inr (.inr (.inr (.inr hq)))
 ·refine kla_hit (c':=r.1) F N T C rfl (.head _) ?_ ?_ hcl ?_
  ·trivial
  ·simp [codeAmong,rawInt,hline,hcol]
  intro f ctv h' tk F' N' _
  exact h f r _ [r,q] ((mg "__name__").getD .none) ctv h' tk F' N' (.inr (.inr ⟨q,r,rfl,rfl,hq,hr⟩)) (by simp) (.head _) (fun x hx=>hx)
theorem yAH {L fa:Addr}:(envW L fa).kindOf (Str.ofString "due")=some .cell/\(envW L fa).cells.lookup (Str.ofString "due")=some (L+1):=⟨by kernel_rfl,by kernel_rfl⟩
theorem yWW {L fa:Addr}:(envW L fa).kindOf (Str.ofString "things")=some .cell/\(envW L fa).cells.lookup (Str.ofString "things")=some (L+1+1):=⟨by kernel_rfl,by kernel_rfl⟩
theorem yZu {L fa:Addr}:(envW L fa).kindOf (Str.ofString "what")=some .cell/\(envW L fa).cells.lookup (Str.ofString "what")=some (L+1+1+1):=⟨by kernel_rfl,by kernel_rfl⟩
theorem yAG {L fa:Addr}:(envW L fa).kindOf (Str.ofString "log")=some .cell/\(envW L fa).cells.lookup (Str.ofString "log")=some (L+1+1+1+1):=⟨by kernel_rfl,by kernel_rfl⟩
theorem yZv {L fa:Addr}:(envW L fa).kindOf (Str.ofString "raws")=some .cell/\(envW L fa).cells.lookup (Str.ofString "raws")=some (L+1+1+1+1+1):=⟨by kernel_rfl,by kernel_rfl⟩
end
def Out (dn:Bool) (M:Int) (raw:Nat->Rw) (N:Nat) (wish:Int) (e:Nat->Value) (l:List (Addr×Obj)) (D:Addr) (r:Nat):Prop:=
 (X5 fun R c ord m tm=>A4 (l=[(D,{ cls:=.type "tuple",data:=.seq #[.str (Str.ofString "told") tm,.ref R] m }),(R,listOf (List.map e ord).toArray c)]) (∀ j,j < 2->ord=(ordD (scR dn M raw j) N).take wish.toNat) (1<=wish->Fst raw N) (r=if 1<=wish then N else 0)) \/
 (X4 fun j m t1 t2=>l=[(D,{ cls:=.type "tuple",data:=.seq #[.str (Str.ofString "thorn") t1,.str (thW j) t2] m })]/\SpV raw N wish r j) \/
 X4 fun mm m t1 t2=>A3 (l=[(D,{ cls:=.type "tuple",data:=.seq #[.str (Str.ofString "kinds") t1,.str mm t2] m })]) (1<=wish) (Tw dn M raw N wish r mm)
section
variable {dn:Bool} {M wish:Int} {raw:Nat->Rw} {N r r':Nat}
theorem Fst.at {n i:Nat} (h:Fst raw n) (hi:i < n):raw i≠.thorn/\(raw i).t=(raw 0).t:=h i hi
theorem wd_same {m:Str} {n:Nat} (hF:Fst raw n) (hr:r<=n) (h:WdK (RG raw r) m):False:=by
 obtain ⟨a,b,⟨i,hi,rfl⟩,⟨j,hj,rfl⟩,ht,_⟩:=h
 exact ht (((hF i (qP hi hr)).2).trans (hF j (qP hj hr)).2.symm)
theorem min_le_w {j:Nat} (h:wish<=(j:Int)):min N wish.toNat<=j:=np12 h
theorem min_ge {j:Nat} (hj:j < N) (h:min N wish.toNat<=j):wish<=(j:Int):=yDv hj h
theorem told_not_thorn {j:Nat} (hF:1<=wish->Fst raw N) (h:SpV raw N wish r j):False:=by
 obtain ⟨h1,_,h3,h4,_⟩:=h
 exact (hF h1 j h3).1 h4
theorem told_not_kinds {ws:List Str} (hF:1<=wish->Fst raw N) (h:SpK dn M raw N wish r ws):False:=by
 rcases h with ⟨h1,rfl,h3,⟨o,ho,ht⟩,_⟩ | ⟨j,q,h1,h2,h3,h4,h5,h6,_⟩
 ·exact ht (hF h1 o (qP ho (min_le_left _ _))).2
 ·exact h6.2 (hF h1 j h3).2
theorem told_not_tw {m:Str} (hF:Fst raw N) (h:Tw dn M raw N wish r m):False:=by
 rcases h with ⟨rfl,_,h3⟩ | ⟨j,q,_,h3,_,_,h6,_⟩
 ·exact wd_same hF (min_le_left _ _) h3
 ·exact h6.2 (hF j h3).2
theorem yWH {j j':Nat} (h:SpV raw N wish r j) (h':SpV raw N wish r' j'):j=j':=by
 obtain ⟨_,_,_,h4,h5,_⟩:=h
 obtain ⟨_,_,_,k4,k5,_⟩:=h'
 rcases lt_trichotomy j j' with z | z | z
 ·exact absurd h4 (k5 j z)
 ·exact z
 ·exact absurd k4 (h5 j' z)
theorem yVP {j:Nat} (h:SpV raw N wish r j) (hn:∀ i,i < min N wish.toNat->raw i≠.thorn):min N wish.toNat<=j/\Fst raw j:=by
 obtain ⟨_,_,h3,h4,_,h6⟩:=h
 have g:min N wish.toNat<=j:=vX.mp fun z=>hn j z h4
 exact ⟨g,h6.resolve_right (Int.not_lt.mpr (min_ge h3 g))⟩
theorem yVO {j j':Nat} (h:SpV raw N wish r j) (hw:wish<=(j':Int)) (hF:Fst raw j') (ho:raw j'≠.thorn/\(raw j').t≠(raw 0).t):False:=by
 obtain ⟨_,_,h3,h4,_,h6⟩:=h
 have hj:¬ j < j':=fun z=>(hF j z).1 h4
 rcases h6 with h6 | h6
 ·rcases lt_or_ge j' j with z | z
  ·exact ho.2 (h6 j' z).2
  ·have e:j=j':=qH z (vX.mp hj)
   rw [e] at h4;exact ho.1 h4
 ·exact hj (Int.ofNat_lt.mp (Int.lt_of_lt_of_le h6 hw))
theorem yBu {j j':Nat} (hF:Fst raw j) (ho:(raw j).t≠(raw 0).t) (hF':Fst raw j') (ho':(raw j').t≠(raw 0).t):j=j':=by
 rcases lt_trichotomy j j' with z | z | z
 ·exact absurd (hF' j z).2 ho
 ·exact z
 ·exact absurd (hF j' z).2 ho'
theorem thorn_not_tw {j:Nat} {m:Str} (h:SpV raw N wish r j) (k:Tw dn M raw N wish r' m):False:=by
 rcases k with ⟨rfl,k2,k3⟩ | ⟨j',q,_,k3,k4,k5,k6,_⟩
 ·obtain ⟨g,hF⟩:=yVP h k2
  exact wd_same hF g k3
 ·exact yVO h k4 k5 k6
theorem thorn_not_kinds {j:Nat} {ws:List Str} (h:SpV raw N wish r j) (k:SpK dn M raw N wish r' ws):False:=by
 rcases k with ⟨_,rfl,k3,⟨o,ho,ht⟩,_⟩ | ⟨j',q,_,_,k3,k4,k5,k6,_⟩
 ·obtain ⟨g,hF⟩:=yVP h k3
  exact ht (hF o (qP ho g)).2
 ·exact yVO h k4 k5 k6
theorem yWP {m:Str} {ws:List Str} (h:Tw dn M raw N wish r m) (k:SpK dn M raw N wish r' ws):r=r'/\m∈ws:=by
 rcases h with ⟨rfl,h2,h3⟩ | ⟨j,q,rfl,h3,h4,h5,h6,h7,h8,rfl⟩
 ·rcases k with ⟨_,rfl,_,_,k5⟩ | ⟨j',q',_,_,k3,k4,k5,k6,_⟩
  ·exact ⟨rfl,k5 _ h3⟩
  ·exact (wd_same k5 (min_le_w k4) h3).elim
 ·rcases k with ⟨_,rfl,_,⟨o,ho,ht⟩,_⟩ | ⟨j',q',_,rfl,k3,k4,k5,k6,k7,rfl⟩
  ·exact absurd (h5 o (qP ho (min_le_w h4))).2 ht
  ·have e:=yBu h5 h6.2 k5 k6.2
   subst e
   refine ⟨rfl,?_⟩
   rw [k7,<- h7 0 (by decide)]
   exact .head _
end
section
variable {A:Around} {s:Shared} {b:Heap} {Q:VS} {E:VS}
theorem yCz {L fa LOG SRC:Addr} {N:Nat} {raw:Nat->Rw} {e rv:Nat->Value} {wish:Int} {t:Tok} {kv:Value} {lo:Obj} {ms0 news:List (Addr×Obj)} {Rd:Nat->Heap->Prop} {M:Int} {dn:Bool} {m:Str->Option Value}
  (hd:A.depth<=495) (hu:A.units<=460) (hA:A.handled=none) (hfr:A.frames=some [envW L fa]) (F:Fr b L s.heap m) (N0:News b L s.heap news) (X:(hd01.heap_1 w.params).In b) (T:Top p loose yQv mg mb b)
  (hms:∀ q∈ms0,A3 (s.heap.get? q.1=some q.2) (q.1≠L) (b.get? q.1=none)) (hoff:∀ q∈news,∀ r∈ms0,q.1≠r.1) (lR:yQU (ms0.map Prod.fst) Rd) (aR:yJD (ms0.map Prod.fst) Rd) (hR0:Rd 0 s.heap)
  (hway:∀ bC:Heap,b.StaysIn bC->(∀ q∈news,bC.get? q.1=some q.2)->(∀ q∈ms0,bC.get? q.1=none)->yZQ prog w bC s.heap SRC kv N raw e rv LOG lo ms0 Rd)
  (h128:N < 128) (hv:yZI N raw rv) (hM:∀ p,p < N->(raw p).t=false->-M<=(raw p).z/\(raw p).z<=M)
  (h:∀ D h' tk l r,Out dn M raw N wish e l D r->Fr b L h' m->News b L h' (l++news)->Rd r h'->(∀ a∈ms0.map Prod.fst,a≠L/\b.get? a=none)->Q (.ref D) {s with heap:=h',toks:=tk}):
  wpAny (model prog w) A (call (.ref 127) [.ref (fnA dn),.int wish t,.ref SRC,kv]) Q E s:=by
 obtain ⟨bC,hbC⟩:∃ bC,bC=hideAll s.heap (L::ms0.map Prod.fst):=⟨_,rfl⟩
 have bL:b.get? L=none:=qV F.above
 have stC:b.StaysIn bC:=fun a o q=>by
  rw [hbC]
  refine vJ _ (F.keep _ _ q) fun z=>?_
  rcases qG.mp z with rfl | z
  ·rw [bL] at q;cases q
  ·obtain ⟨x,hx,rfl⟩:=wB.mp z
   obtain ⟨_,_,n⟩:=hms x hx
   rw [n] at q;cases q
 have inC:∀ q∈news,bC.get? q.1=some q.2:=fun q hq=>by
  rw [hbC]
  refine vJ _ (N0 q hq).1 fun z=>?_
  rcases qG.mp z with z | z
  ·exact (N0 q hq).2.1 z
  ·obtain ⟨x,hx,e⟩:=wB.mp z
   exact hoff q hq x hx e.symm
 have noC:∀ q∈ms0,bC.get? q.1=none:=fun q hq=>by rw [hbC];exact vK _ (.tail _ (List.mem_map_of_mem hq))
 have sz:bC.objs.size<=s.heap.objs.size:=by rw [hbC,hideAll_size];exact vC _
 have stH:bC.StaysIn s.heap:=fun a o q=>by rw [hbC] at q;exact vL _ q
 have cL':bC.get? L=none:=by rw [hbC];exact vK _ (.head _)
 have fin:∀ h' (l:List (Addr×Obj)),bC.StaysIn h'->yQa [envW L fa] s.heap h'->(∀ q∈l,h'.get? q.1=some q.2/\bC.get? q.1=none/\∀ d k,q.2.data≠.dict d k)->Fr b L h' m/\News b L h' (l++news):=fun h' l st fr hl=>by
  have ns:=fr L (framesOf_mem _ (.head _) L rfl) m F.ns
  refine ⟨⟨ns,fun a o q=>st _ _ (stC _ _ q),F.above⟩,fun q hq=>?_⟩
  rcases qF.mp hq with hq | hq
  ·have z:=hl q hq
   exact ⟨z.1,yVu ns z.1 z.2.2,none_sub stC z.2.1⟩
  ·exact ⟨st _ _ (inC q hq),(N0 q hq).2⟩
 have tup_off:∀ {vs:Array Value} {n:Nat} d k,({ cls:=.type "tuple",data:=.seq vs n }:Obj).data≠.dict d k:=fun d k q=>by cases q
 have hms2:∀ a∈ms0.map Prod.fst,a≠L/\b.get? a=none:=fun a ha=>by
  obtain ⟨q,hq,rfl⟩:=wB.mp ha
  obtain ⟨_,q2,q3⟩:=hms q hq
  exact ⟨q2,q3⟩
 refine yBC (b:=bC) (outer:=[envW L fa]) (N:=N) (e:=e) (rv:=rv) (raw:=raw) (M:=M) (LOG:=LOG) (lo:=lo) (ms0:=ms0) (Rd:=Rd) hd (qZ hu (by decide)) hA hfr (Heap.FunFrames.cons (by show yVF.kind≠_;rw [show yVF.kind=.function by kernel_rfl];nofun) rfl F.ns cL' trivial) stH sz (X.keeps stC) (T.keeps stC) (fun q hq=>by
  obtain ⟨q1,q2,_⟩:=hms q hq
  exact ⟨q1,noC q hq,fun z=>q2 (qC.mp z)⟩) lR hR0 (hway bC stC inC noC) h128 hv hM aR ?_ ?_ ?_
 ·rintro D R h' tk c ord mm tm ⟨st,nR,nD,fr⟩ ho hF gR gD hRd
  obtain ⟨F',N'⟩:=fin h' [(D,_),(R,_)] st fr fun q hq=>by
   simp only [qG,wG,or_false] at hq
   rcases hq with rfl | rfl
   ·exact ⟨gD,nD,tup_off⟩
   ·exact ⟨gR,nR,yVE⟩
  exact h D h' tk _ _ (.inl ⟨R,c,ord,mm,tm,rfl,ho,hF,rfl⟩) F' N' hRd hms2
 ·rintro D j h' tk mm t1 t2 ⟨z1,z2,z3,z4,z5⟩ ⟨st,nD,fr⟩ gD hRd
  obtain ⟨F',N'⟩:=fin h' [(D,_)] st fr fun q hq=>by
   rw [qC] at hq;subst hq
   exact ⟨gD,nD,tup_off⟩
  exact h D h' tk _ _ (.inr (.inl ⟨j,mm,t1,t2,rfl,z1,rfl,z2,z3,z4,z5⟩)) F' N' hRd hms2
 ·rintro D r mm h' tk mn t1 t2 hw htw ⟨st,nD,fr⟩ gD hRd
  obtain ⟨F',N'⟩:=fin h' [(D,_)] st fr fun q hq=>by
   rw [qC] at hq;subst hq
   exact ⟨gD,nD,tup_off⟩
  exact h D h' tk _ _ (.inr (.inr ⟨mm,mn,t1,t2,rfl,hw,htw⟩)) F' N' hRd hms2
end
noncomputable def C5 (L:Addr) (oc:Nat->Obj):List (Addr×Obj):=[(L+1,oc 0),(L+1+1,oc 1),(L+1+1+1,oc 2),(L+1+1+1+1,oc 3),(L+1+1+1+1+1,oc 4)]
noncomputable def setA {α:Type} (f:Nat->α) (i:Nat) (x:α) (j:Nat):α:=if j=i then x else f j
def Cln (q:Addr×Obj):Prop:=(∀ v,q.2.data≠.cell v)/\q.2.cls≠.none
theorem yQe {a:Addr} {vs:Array Value} {c:Nat}:Cln (a,listOf vs c):=⟨fun v q=>by simp [W.listOf] at q,fun q=>by simp [W.listOf] at q⟩
theorem yZr {a:Addr} {T:String} {vs:Array Value} {c:Nat}:Cln (a,{ cls:=.type T,data:=.seq vs c }):=⟨fun _ z=>(by cases z),fun z=>(by cases z)⟩
theorem yBQ {a:Addr} {fd:FuncData}:Cln (a,{ cls:=.type "function",data:=.func fd }):=⟨fun _ z=>(by cases z),fun z=>(by cases z)⟩
theorem yQu {a:Addr} {T:String} {vs:Array Value}:Cln (a,{ cls:=.type T,data:=.fields vs }):=⟨fun _ z=>(by cases z),fun z=>(by cases z)⟩
theorem led_ne {B h:Heap} {L:Addr} {news:List (Addr×Obj)} (N:News B L h news) {q r:Addr×Obj} (hq:q∈news) (hr:r∈news) (ne:q.2≠r.2):q.1≠r.1:=fun e=>ne (by
 have a:=(N q hq).1
 rw [e,(N r hr).1] at a
 exact (wD a).symm)
structure LS (b h:Heap) (L:Addr) (m:Str->Option Value) (oc:Nat->Obj) (dat:Nat->Option Value) (ps:Array Value) (cds R:List (Addr×Obj)):Prop where
 fr:Fr b L h m
 nw:News b L h (C5 L oc++(129,tabObj ps)::(cds++R))
 cl:∀ i,i < 5->(oc i).data=.cell (dat i)
 tb:yVm ps cds
 rc:∀ q∈R,Cln q
 lt:129 < L
noncomputable def cnm:Nat->Str
 | 0=>Str.ofString "due"
 | 1=>Str.ofString "things"
 | 2=>Str.ofString "what"
 | 3=>Str.ofString "log"
 | _=>Str.ofString "raws"
noncomputable def cad (L:Addr):Nat->Addr
 | 0=>L+1
 | 1=>L+1+1
 | 2=>L+1+1+1
 | 3=>L+1+1+1+1
 | _=>L+1+1+1+1+1
theorem lt5 {i:Nat} (h:i < 5):i=0\/i=1\/i=2\/i=3\/i=4:=np22 h
theorem yZA {L i:Nat} (h:i < 5):cad L i=L+1+i:=by rcases lt5 h with rfl | rfl | rfl | rfl | rfl<;>rfl
theorem cn_kind {L fa:Addr} {i:Nat} (h:i < 5):(envW L fa).kindOf (cnm i)=some .cell/\(envW L fa).cells.lookup (cnm i)=some (cad L i):=by
 rcases lt5 h with rfl | rfl | rfl | rfl | rfl
 ·exact yAH
 ·exact yWW
 ·exact yZu
 ·exact yAG
 ·exact yZv
theorem c5_mem {L:Addr} {oc:Nat->Obj} {i:Nat} (h:i < 5):(cad L i,oc i)∈C5 L oc:=by
 rcases lt5 h with rfl | rfl | rfl | rfl | rfl
 ·exact .head _
 ·exact .tail _ (.head _)
 ·exact .tail _ (.tail _ (.head _))
 ·exact .tail _ (.tail _ (.tail _ (.head _)))
 ·exact .tail _ (.tail _ (.tail _ (.tail _ (.head _))))
theorem yXZ {L:Addr} {oc:Nat->Obj} {q:Addr×Obj} (h:q∈C5 L oc):∃ i,i < 5/\q=(cad L i,oc i):=by
 simp only [C5,qG,wG,or_false] at h
 rcases h with rfl | rfl | rfl | rfl | rfl
 ·exact ⟨0,by decide,rfl⟩
 ·exact ⟨1,by decide,rfl⟩
 ·exact ⟨2,by decide,rfl⟩
 ·exact ⟨3,by decide,rfl⟩
 ·exact ⟨4,by decide,rfl⟩
section
variable {b h h':Heap} {L:Addr} {m m':Str->Option Value} {oc:Nat->Obj} {dat:Nat->Option Value} {ps:Array Value} {cds R xs:List (Addr×Obj)}
theorem LS.at (S:LS b h L m oc dat ps cds R) {q:Addr×Obj} (hq:q∈R):h.get? q.1=some q.2:=(S.nw q (qB _ (.tail _ (qB _ hq)))).1
theorem LS.cellAt (S:LS b h L m oc dat ps cds R) {i:Nat} (hi:i < 5):h.get? (cad L i)=some (oc i):=(S.nw _ (qY _ (c5_mem hi))).1
theorem LS.grow (S:LS b h L m oc dat ps cds R) (F:Fr b L h' m') (N:News b L h' (xs++(C5 L oc++(129,tabObj ps)::(cds++R)))) (hx:∀ q∈xs,Cln q):LS b h' L m' oc dat ps cds (xs++R):=
 ⟨F,fun q hq=>N q (by
  simp only [qF,qG] at hq ⊢
  rcases hq with hq | hq | hq | hq | hq
  ·exact .inr (.inl hq)
  ·exact .inr (.inr (.inl hq))
  ·exact .inr (.inr (.inr (.inl hq)))
  ·exact .inl hq
  ·exact .inr (.inr (.inr (.inr hq)))),S.cl,S.tb,fun q hq=>(qF.mp hq).elim (hx q) (S.rc q),S.lt⟩
theorem LS.same (S:LS b h L m oc dat ps cds R) (F:Fr b L h' m') (N:News b L h' (C5 L oc++(129,tabObj ps)::(cds++R))):LS b h' L m' oc dat ps cds R:=⟨F,N,S.cl,S.tb,S.rc,S.lt⟩
theorem LS.less (S:LS b h L m oc dat ps cds R) (k:∀ q∈xs,q∈R):LS b h L m oc dat ps cds xs:=
 ⟨S.fr,fun q hq=>S.nw q (by
  simp only [qF,qG] at hq ⊢
  rcases hq with hq | hq | hq | hq
  ·exact .inl hq
  ·exact .inr (.inl hq)
  ·exact .inr (.inr (.inl hq))
  ·exact .inr (.inr (.inr (k q hq)))),S.cl,S.tb,fun q hq=>S.rc q (k q hq),S.lt⟩
theorem LS.keeps (S:LS b h L m oc dat ps cds R) (k:h.StaysIn h'):LS b h' L m oc dat ps cds R:=⟨fr_keeps S.fr k,news_keeps S.nw k,S.cl,S.tb,S.rc,S.lt⟩
end
section
variable {A:Around} {s:Shared} {b:Heap} {Q:VS} {E:VS}
theorem LS.set {L fa:Addr} {m:Str->Option Value} {oc:Nat->Obj} {dat:Nat->Option Value} {ps:Array Value} {cds R:List (Addr×Obj)} {i:Nat} {v:Value} {Q:Unit->Shared->Prop} (S:LS b s.heap L m oc dat ps cds R) (hi:i < 5)
  (k:∀ h' o',LS b h' L m (setA oc i o') (setA dat i (some v)) ps cds R->Heap.SameBut (cad L i) s.heap h'->Q () {s with heap:=h'}):
  wpAny (model prog w) A (storeName (envW L fa) (cnm i) v) Q E s:=by
 have hm:=S.nw _ (qY _ (c5_mem hi))
 have hk:=cn_kind (L:=L) (fa:=fa) hi
 refine wpAny_storeName_cell (v₀:=dat i) (by kernel_rfl) hk.1 hk.2 ⟨_,hm.1,S.cl i hi⟩ fun h' ⟨o',g1,g2⟩ s1=>?_
 refine k h' o' ⟨fr_ext S.fr (vF hm.2.1) hm.2.2 s1.extBut,fun q hq=>?_,fun j hj=>?_,S.tb,S.rc,S.lt⟩ s1
 ·have old:∀ {x:Addr×Obj},x∈C5 L oc++(129,tabObj ps)::(cds++R)->x.1≠cad L i->h'.get? x.1=some x.2/\x.1≠L/\b.get? x.1=none:=fun {x} hx ne=>⟨s1.extBut _ _ ne (S.nw x hx).1,(S.nw x hx).2⟩
  rcases qF.mp hq with hq | hq
  ·obtain ⟨j,hj,rfl⟩:=yXZ hq
   by_cases e:j=i
   ·subst e
    have e2:setA oc j o' j=o':=qN rfl
    rw [e2]
    exact ⟨g1,hm.2⟩
   ·have e2:setA oc i o' j=oc j:=qM e
    rw [e2]
    exact old (qY _ (c5_mem hj)) (by dsimp only;rw [yZA hj,yZA hi];exact fun z=>e (Nat.add_left_cancel z))
  ·refine old (qB _ hq) (led_ne S.nw (qB _ hq) (qY _ (c5_mem hi)) fun z=>?_)
   have hc:=S.cl i hi
   dsimp only at z
   rcases qG.mp hq with rfl | hq
   ·rw [<- z] at hc;cases hc
   rcases qF.mp hq with hq | hq
   ·obtain ⟨_,_,_,hf,_⟩:=S.tb.code q hq
    rw [<- z,hf] at hc;cases hc
   ·exact (S.rc q hq).1 _ (by rw [z];exact hc)
 ·by_cases e:j=i
  ·subst e
   rw [show setA oc j o' j=o' from qN rfl,show setA dat j (some v) j=some v from qN rfl]
   exact g2
  ·rw [show setA oc i o' j=oc j from qM e,show setA dat i (some v) j=dat j from qM e]
   exact S.cl j hj
theorem LS.get {L fa:Addr} {px:Pos} {m:Str->Option Value} {oc:Nat->Obj} {dat:Nat->Option Value} {ps:Array Value} {cds R:List (Addr×Obj)} {i:Nat} {v:Value} (S:LS b s.heap L m oc dat ps cds R) (hi:i < 5) (hv:dat i=some v) (h:Q v s) (hb:(cnm i == ("__debug__":Str))=false:=by decide):wpAny (model prog w) A (eval (.Name (cnm i) px) (envW L fa)) Q E s:=
 wpAny_Name (wpAny_loadName_cell (by kernel_rfl) (cn_kind hi).1 (cn_kind hi).2 ⟨_,S.cellAt hi,by rw [<- hv];exact S.cl i hi⟩ h) hb
theorem LS.lam {L fa:Addr} {m:Str->Option Value} {oc:Nat->Obj} {dat:Nat->Option Value} {params:Arguments} {body:PySem.Expr} {scope:Scope} {pos:Pos} {ps:Array Value} {cds R:List (Addr×Obj)} {clos:List (Str×Addr)} (S:LS b s.heap L m oc dat ps cds R) (T:Top p loose yQv mg mb b) (C:CodeHd b 131 129)
  (hdef:defaultsOf params (envW L fa)=([],[])) (hcl:closureFor scope (envW L fa)=pure clos) (hp:(pos.line=230/\pos.col=18)\/(cds≠[]/\pos.line=233/\pos.col=29))
  (h:∀ f q ps' yQn pm ctv h' tk,LS b h' L m oc dat ps' yQn ((f,kla_obj "<lambda>" yQg params body scope clos pm q.1 ctv)::R)->yQn≠[]->q∈yQn->Q (.ref f) {s with heap:=h',toks:=tk}):
  wpAny (model prog w) A (eval (.Lambda params body scope pos) (envW L fa)) Q E s:=by
 have N:News b L s.heap ((129,tabObj ps)::(cds++(C5 L oc++R))):=fun q hq=>S.nw q (by
  simp only [qF,qG] at hq ⊢
  rcases hq with hq | hq | hq | hq
  ·exact .inr (.inl hq)
  ·exact .inr (.inr (.inl hq))
  ·exact .inl hq
  ·exact .inr (.inr (.inr hq)))
 have hoff:∀ q∈C5 L oc++R,q.1≠129:=fun q hq=>by
  rcases qF.mp hq with hq | hq
  ·obtain ⟨i,hi,rfl⟩:=yXZ hq
   dsimp only
   rw [yZA hi]
   have:=S.lt
   exact ne_of_gt (qP this (qZ (le_succ L) (Nat.le_add_right _ _)))
  ·exact led_ne N (r:=(129,tabObj ps)) (.tail _ (qB _ (qB _ hq))) (.head _) fun z=>(S.rc q hq).2 (by rw [z])
 have fin:∀ f q ps' yQn pm ctv h' tk,Fr b L h' m->News b L h' ((f,kla_obj "<lambda>" yQg params body scope clos pm q.1 ctv)::(129,tabObj ps')::(yQn++(C5 L oc++R)))->yVm ps' yQn->yQn≠[]->q∈yQn->Q (.ref f) {s with heap:=h',toks:=tk}:=fun f q ps' yQn pm ctv h' tk F' N' tb ne hq=>h f q ps' yQn pm ctv h' tk ⟨F',fun x hx=>N' x (by
  simp only [qF,qG] at hx ⊢
  rcases hx with hx | hx | hx | hx | hx
  ·exact .inr (.inr (.inr (.inl hx)))
  ·exact .inr (.inl hx)
  ·exact .inr (.inr (.inl hx))
  ·exact .inl hx
  ·exact .inr (.inr (.inr (.inr hx)))),S.cl,tb,fun x hx=>by
   rcases qG.mp hx with rfl | hx
   ·exact yBQ
   ·exact S.rc x hx,S.lt⟩ ne hq
 rcases hp with ⟨h1,h2⟩ | ⟨h0,h1,h2⟩
 ·exact yBH S.fr N T C S.tb hoff hdef hcl h1 h2 fin
 ·exact yBG S.fr N T C S.tb h0 hoff hdef hcl h1 h2 fun f q ps' yQn pm ctv h' tk a1 a2 a3 a4 a5 _=>fin f q ps' yQn pm ctv h' tk a1 a2 a3 a4 a5
end
namespace K_inner_start
def zP (A:Around) (s:Shared) (b:Heap) (E:VS) (L fa:Addr) (N:Nat) (m:Str->Option Value) (oc:Nat->Obj) (dat:Nat->Option Value) (ps:Array Value) (cds R:List (Addr×Obj)) (tz:Tok) (QF:Flow->Shared->Prop):Prop:=∀ (hd:A.depth<=497) (hu:A.units<=470) (hA:A.handled=none) (X:(hd01.heap_1 w.params).In b) (T:Top p loose yQv mg mb b) (C:CodeHd b 131 129) (S0:LS b s.heap L m oc dat ps cds R) (h128:N < 128) (e_z:m (Str.ofString "size")=some (.int (N:Int) tz)) (k:∀ h' tk m' oc' dat' ps' yQn LOG TH f c e mk cT pm cA ctv oC,A7 (LS b h' L m' oc' dat' ps' yQn ((f,kla_obj "<lambda>" yQg (lamPar (Str.ofString "thing") ⟨230,25,230,30⟩) (lamBody (thingEx ⟨230,54,230,59⟩ ⟨230,60,230,61⟩ ⟨230,54,230,62⟩) ⟨230,32,230,42⟩ ⟨230,43,230,46⟩ ⟨230,48,230,52⟩ ⟨230,32,230,63⟩) (lamScope (Str.ofString "thing")) (lamClos (cad L 3) (cad L 4)) pm cA ctv)::(TH,listOf ((List.range N).map e).toArray cT)::(mk++R))) (yQn≠[]) ((cA,oC)∈yQn) (dat' 0=dat 0/\dat' 1=some (.ref TH)/\dat' 3=some (.ref LOG)/\dat' 4=dat 4) (∀ j,j < N->X3 fun a t c=>e j=.ref a/\(a,listOf #[.int (j:Int) t] c)∈mk) (A3 (h'.get? LOG=some (listOf #[] c)) (LOG≠L) (b.get? LOG=none)) (∀ q∈C5 L oc'++(129,tabObj ps')::(yQn++((f,kla_obj "<lambda>" yQg (lamPar (Str.ofString "thing") ⟨230,25,230,30⟩) (lamBody (thingEx ⟨230,54,230,59⟩ ⟨230,60,230,61⟩ ⟨230,54,230,62⟩) ⟨230,32,230,42⟩ ⟨230,43,230,46⟩ ⟨230,48,230,52⟩ ⟨230,32,230,63⟩) (lamScope (Str.ofString "thing")) (lamClos (cad L 3) (cad L 4)) pm cA ctv)::(TH,listOf ((List.range N).map e).toArray cT)::(mk++R))),q.1≠LOG)->
   (∀ x,x≠Str.ofString "key"->m' x=m x)->m' (Str.ofString "key")=some (.ref f)->wpAny (model prog w) A (execs (yQb.drop 3) (envW L fa)) QF E {s with heap:=h',toks:=tk}),
  wpAny (model prog w) A (execs yQb (envW L fa)) QF E s
def zc:=ep (U15 zP) ⟨({},(start default).1,default,fun O O=>True,0,0,0,fun O=>none,fun O=>default,fun O=>none,#[],[],[],0,fun O O=>True)⟩
def zd1:=zc.2.2.2.2.2.2.2.2
def A:=zc.1
def b:=zc.2.2.1
def L:=zc.2.2.2.2.1
def N:=zc.2.2.2.2.2.2.1
def m:=zc.2.2.2.2.2.2.2.1
def oc:=zd1.1
def ps:=zd1.2.2.1
def cds:=zd1.2.2.2.1
def R:=zd1.2.2.2.2.1
theorem zh:zP A zc.2.1 b zc.2.2.2.1 L zc.2.2.2.2.2.1 N m oc zd1.2.1 ps cds R zd1.2.2.2.2.2.1 zd1.2.2.2.2.2.2:=by
 intro hd hu hA X T C S0 h128 e_z k
 conv in yQb=>whnf
 have F:=S0.fr
 have N0:=S0.nw
 walk_at "rM"
 rename_i LOG h1 F1 N1 l1
 refine (S0.grow (xs:=[(LOG,listOf #[] 0)]) F1 N1 (fun q hq=>by rw [qC.mp hq];exact yQe)).set (i:=3) (by decide) fun h2 o2 S2 _=>?_
 clear F1 N1
 have F2:=S2.fr
 have N2:=S2.nw
 walk_at "rM"
 refine wpAny_Assign_Name (src_list (L:=L) (m:=m) (B:=b) (n:=N) (V:=fun j v=>∃ t,v=.int (0+(j:Int)) t) (news:=C5 L (setA oc 3 o2)++(129,tabObj ps)::(cds++([(LOG,listOf #[] 0)]++R))) (cl:=[]) (Nm:=NmV "k" _) (fun O=>true) (fun j y nw=>X2 fun a t=>y=.ref a/\nw=[(a,listOf #[.int (j:Int) t] 0)]) (by kernel_rfl) (by decide +kernel) (by decide +kernel) (by intro _;rfl) (jg2 [_] 0xf0000080dab0f0ab00003e8d h128) (by rfl) ?_ (stores_name (by rfl) (by rfl)) yQo ?_ ?_) (by kernel_rfl)
 ·show wpAny _ _ _ _ _ _
  walk_at "rM"
  rename_i h6 tk6 t1 u1 v1 hr F6 N6 k6
  exact yQX hA F6 N6 hr (jg2 [_] 0xf0000080dab0f0ab00186a0d h128)
 ·intro j h ma3 tk E' C hj _ hn hnm hG
  obtain ⟨v,⟨t,rfl⟩,hv1⟩:=hnm
  rw [Int.zero_add] at hv1
  walk_at "rM"
  refine wpAny_newList ⟨_,_,[(h.objs.size,listOf #[.int (j:Int) t] 0)],rfl,fun _ _ q=>qS _ q,⟨_,t,rfl,rfl⟩,fun q hq=>?_⟩ (by rw [sizeLine_eq];exact Nat.le_of_ble_eq_true rfl)
  rw [qC.mp hq]
  exact ⟨qX _ rfl,qV (vC _)⟩
 intro D h8 tk8 rs hr hm
 obtain ⟨F8,⟨c8,N8⟩,off8,fr8⟩:=hm
 obtain ⟨r1,r2⟩:=hr
 rw [yQt] at r1 r2
 rw [length_range] at r1
 obtain ⟨e,he⟩:∃ e:Nat->Value,e=fun j=>(rs.map (·.1)).getD j .none:=⟨_,rfl⟩
 have hrs:rs.map (·.1)=(List.range N).map e:=by
  have z:=yJN (vs:=rs.map (·.1))
  rw [length_map,r1] at z
  rw [he];exact z
 have hel:∀ j,j < N->X3 fun a t c=>e j=.ref a/\(a,listOf #[.int (j:Int) t] c)∈rs.flatMap (·.2):=fun j hj=>by
  have hj':j < rs.length:=by rw [r1];exact hj
  obtain ⟨a,t,h1,h2⟩:=r2 j _ (qT hj')
  have z:(List.range N).getD j 0=j:=by simp [hj]
  rw [z] at h2
  refine ⟨a,t,0,?_,mem_flatMap.mpr ⟨rs[j],wK hj',by rw [h2];exact .head _⟩⟩
  rw [he,<- h1]
  simp [hj']
 have hcl:∀ q∈rs.flatMap (·.2),Cln q:=fun q hq=>by
  obtain ⟨r,hr,hq⟩:=mem_flatMap.mp hq
  obtain ⟨i,hi,rfl⟩:=getElem_of_mem hr
  obtain ⟨a,t,_,h2⟩:=r2 i _ (qT hi)
  rw [h2] at hq
  rw [qC.mp hq];exact yQe
 rw [hrs] at N8
 generalize rs.flatMap (·.2)=mk at *
 clear hrs he r1 r2
 refine (S2.grow (xs:=(D,listOf ((List.range N).map e).toArray c8)::mk) F8 (fun q hq=>N8 q (by simpa using hq)) (fun q hq=>by
  rcases qG.mp hq with rfl | hq
  ·exact yQe
  ·exact hcl q hq)).set (i:=1) (by decide) fun h9 o9 S9 _=>?_
 clear F2 N2
 have F9:=S9.fr
 have N9:=S9.nw
 walk_at "rM"
 refine S9.lam (clos:=lamClos (cad L 3) (cad L 4)) T C (by rfl) (by kernel_rfl) (.inl ⟨rfl,rfl⟩) fun f q ps' yQn pm ctv h10 tk10 S10 hne hq=>?_
 clear F9 N9
 have F10:=S10.fr
 have N10:=S10.nw
 walk_at "rM"
 rename_i h11 F11 N11
 have S11:=S10.same F11 N11
 clear F11 N11
 obtain ⟨cA,oC⟩:=q
 have mL:(LOG,listOf #[] 0)∈(f,kla_obj "<lambda>" yQg (lamPar (Str.ofString "thing") ⟨230,25,230,30⟩) (lamBody (thingEx ⟨230,54,230,59⟩ ⟨230,60,230,61⟩ ⟨230,54,230,62⟩) ⟨230,32,230,42⟩ ⟨230,43,230,46⟩ ⟨230,48,230,52⟩ ⟨230,32,230,63⟩) (lamScope (Str.ofString "thing")) (lamClos (cad L 3) (cad L 4)) pm cA ctv)::(((D,listOf ((List.range N).map e).toArray c8)::mk)++([(LOG,listOf #[] 0)]++R)):=.tail _ (qB _ (.head _))
 have gL:=S11.nw _ (qB _ (.tail _ (qB _ mL)))
 have mL8:(LOG,listOf #[] 0)∈C5 L (setA oc 3 o2)++(129,tabObj ps)::(cds++([(LOG,listOf #[] 0)]++R)):=qB _ (.tail _ (qB _ (.head _)))
 refine k h11 _ _ _ _ ps' yQn LOG D f 0 e mk c8 pm cA ctv oC ⟨S11.less fun x hx=>?_,hne,hq,⟨rfl,rfl,rfl,rfl⟩,hel,⟨gL.1,gL.2.1,gL.2.2⟩,fun x hx=>?_⟩ (fun x hx=>qM hx) (qN rfl)
 ·simp only [qF,qG] at hx ⊢
  rcases hx with hx | hx | hx | hx
  ·exact .inl hx
  ·exact .inr (.inl (.inl hx))
  ·exact .inr (.inl (.inr hx))
  ·exact .inr (.inr (.inr hx))
 ·have mL11:=qB (C5 L (setA (setA oc 3 o2) 1 o9)) (mem_cons_of_mem (129,tabObj ps') (qB yQn mL))
  rcases qF.mp hx with hx | hx
  ·obtain ⟨i,hi,rfl⟩:=yXZ hx
   refine led_ne S11.nw (qY _ hx) mL11 fun z=>?_
   have hc:=S11.cl i hi
   dsimp only at z
   rw [z] at hc
   simp [W.listOf] at hc
  rcases qG.mp hx with rfl | hx
  ·exact led_ne S11.nw (qB _ (.head _)) mL11 (fun z=>by cases z)
  rcases qF.mp hx with hx | hx
  ·refine led_ne S11.nw (qB _ (.tail _ (qY _ hx))) mL11 fun z=>?_
   obtain ⟨_,_,_,hf,_⟩:=S11.tb.code x hx
   rw [z] at hf
   simp [W.listOf] at hf
  rcases qG.mp hx with rfl | hx
  ·exact led_ne S11.nw (qB _ (.tail _ (qB _ (.head _)))) mL11 fun z=>by have:=wE Obj.cls z;simp [W.listOf] at this
  rcases qG.mp hx with rfl | hx
  ·exact vF (off8 _ (qB _ mL8))
  rcases qF.mp hx with hx | hx
  ·exact fr8 x hx _ mL8
  ·exact vB (l1 x (qB _ (.tail _ (qB _ hx))))
end K_inner_start
theorem yJe {A s b E L fa N m oc dat ps cds R tz QF}:K_inner_start.zP A s b E L fa N m oc dat ps cds R tz QF:=eps (P:=U15 K_inner_start.zP) K_inner_start.zh (A,s,b,E,L,fa,N,m,oc,dat,ps,cds,R,tz,QF)
def yCo (dn:Bool) (M:Int) (raw:Nat->Rw) (N:Nat) (wish:Int) (e:Nat->Value) (kd:String) (wv:Value) (l:List (Addr×Obj)) (r:Nat):Prop:=
 (X3 fun R c ord=>A6 (kd="told") (wv=.ref R) (l=[(R,listOf (List.map e ord).toArray c)]) (∀ j,j < 2->ord=(ordD (scR dn M raw j) N).take wish.toNat) (1<=wish->Fst raw N) (r=if 1<=wish then N else 0)) \/
 (X2 fun j t=>A4 (kd="thorn") (wv=.str (thW j) t) (l=[]) (SpV raw N wish r j)) \/
 X2 fun mm t=>A5 (kd="kinds") (wv=.str mm t) (l=[]) (1<=wish) (Tw dn M raw N wish r mm)
theorem yYC {dn:Bool} {M:Int} {raw:Nat->Rw} {N:Nat} {wish:Int} {e:Nat->Value} {l:List (Addr×Obj)} {D:Addr} {r:Nat} (h:Out dn M raw N wish e l D r):X5 fun kd t wv m l'=>l=(D,{ cls:=.type "tuple",data:=.seq #[.str (Str.ofString kd) t,wv] m })::l'/\yCo dn M raw N wish e kd wv l' r:=by
 rcases h with ⟨R,c,ord,m,tm,rfl,h1,h2,h3⟩ | ⟨j,m,t1,t2,rfl,h1⟩ | ⟨mm,m,t1,t2,rfl,h1,h2⟩
 ·exact ⟨"told",tm,_,m,_,rfl,.inl ⟨R,c,ord,rfl,rfl,rfl,h1,h2,h3⟩⟩
 ·exact ⟨"thorn",t1,_,m,_,rfl,.inr (.inl ⟨j,t2,rfl,rfl,rfl,h1⟩)⟩
 ·exact ⟨"kinds",t1,_,m,_,rfl,.inr (.inr ⟨mm,t2,rfl,rfl,rfl,h1,h2⟩)⟩
theorem yCo.cln {dn:Bool} {M:Int} {raw:Nat->Rw} {N:Nat} {wish:Int} {e:Nat->Value} {kd:String} {wv:Value} {l:List (Addr×Obj)} {r:Nat} (h:yCo dn M raw N wish e kd wv l r):∀ q∈l,Cln q:=by
 rcases h with ⟨R,c,ord,_,_,rfl,_⟩ | ⟨j,t,_,_,rfl,_⟩ | ⟨mm,t,_,_,rfl,_⟩
 ·intro q hq;rw [qC.mp hq];exact yQe
 ·exact fun _ q=>nomatch q
 ·exact fun _ q=>nomatch q
section
variable {A:Around} {s:Shared} {b:Heap} {Q:VS} {E:VS}
theorem yWJ {L fa LOG SRC:Addr} {N:Nat} {raw:Nat->Rw} {e rv:Nat->Value} {wish M:Int} {dn:Bool} {kv:Value} {lo:Obj} {ms0:List (Addr×Obj)} {Rd:Nat->Heap->Prop} {m:Str->Option Value} {oc:Nat->Obj} {dat:Nat->Option Value} {ps:Array Value} {cds R:List (Addr×Obj)} {tw:Tok} {QF:Flow->Shared->Prop}
  (hd:A.depth<=495) (hu:A.units<=460) (hA:A.handled=none) (hfr:A.frames=some [envW L fa]) (X:(hd01.heap_1 w.params).In b) (T:Top p loose yQv mg mb b)
  (S0:LS b s.heap L m oc dat ps cds R) (hms:∀ q∈ms0,A3 (s.heap.get? q.1=some q.2) (q.1≠L) (b.get? q.1=none)) (hoff:∀ q∈C5 L oc++(129,tabObj ps)::(cds++R),∀ r∈ms0,q.1≠r.1) (lR:yQU (ms0.map Prod.fst) Rd) (aR:yJD (ms0.map Prod.fst) Rd) (hR0:Rd 0 s.heap)
  (hcl:∀ r h,Rd r h->∀ a∈ms0.map Prod.fst,∀ o,h.get? a=some o->Cln (a,o))
  (hway:∀ bC:Heap,b.StaysIn bC->(∀ q∈C5 L oc++(129,tabObj ps)::(cds++R),bC.get? q.1=some q.2)->(∀ q∈ms0,bC.get? q.1=none)->yZQ prog w bC s.heap SRC kv N raw e rv LOG lo ms0 Rd)
  (h128:N < 128) (hv:yZI N raw rv) (hM:∀ p,p < N->(raw p).t=false->-M<=(raw p).z/\(raw p).z<=M)
  (e_w:m (Str.ofString "wish")=some (.int wish tw)) (e_l:m (Str.ofString "largest")=some (.bool dn)) (e_h:m (Str.ofString "handed")=some (.ref SRC)) (e_k:m (Str.ofString "key")=some kv)
  (k:∀ h' tk m' oc' dat' ms1 l r kd wv t,A6 (yCo dn M raw N wish e kd wv l r) (LS b h' L m' oc' dat' ps cds (ms1++(l++R))) (Rd r h') (ms1.map Prod.fst=ms0.map Prod.fst) (dat' 0=dat 0/\dat' 1=dat 1/\dat' 2=some wv/\dat' 3=dat 3/\dat' 4=dat 4) (∀ x,x≠Str.ofString "came"->m' x=m x)->m' (Str.ofString "came")=some (.str (Str.ofString kd) t)->
   wpAny (model prog w) A (execs (yQb.drop 6) (envW L fa)) QF E {s with heap:=h',toks:=tk}):
  wpAny (model prog w) A (execs (yQb.drop 5) (envW L fa)) QF E s:=by
 conv in yQb.drop 5=>whnf
 have F:=S0.fr
 have N0:=S0.nw
 walk_at "rO"
 refine qL (Q:=fun v s'=>v=.ref (fnA dn)/\∃ tk',s'={ s with toks:=tk' }) ?_ ?_ fun _ _ e=>e
 ·walk_at "rM"
  ·rw [show dn=true by assumption];rfl
  ·rw [show dn=false by assumption];rfl
 rintro v s' ⟨rfl,tk',rfl⟩
 walk_at "rO"
 refine yCz (N:=N) (raw:=raw) (e:=e) (rv:=rv) (LOG:=LOG) (lo:=lo) (ms0:=ms0) (Rd:=Rd) (M:=M) (s:={ s with toks:=tk' }) hd hu hA hfr F N0 X T hms hoff lR aR hR0 hway h128 hv hM ?_
 intro D h1 tk1 l r hO F1 N1 hRd hms2
 obtain ⟨kd,t1,wv,mm,l,rfl,hP⟩:=yYC hO
 obtain ⟨ms1,e1,g1⟩:=yJy (aR _ _ hRd)
 have u1:∀ h',(∀ q∈ms1,h'.get? q.1=some q.2)->Rd r h':=fun h' k=>lR _ _ _ hRd fun a ha o q=>by
  rw [<- e1] at ha
  obtain ⟨z,hz,rfl⟩:=wB.mp ha
  rw [g1 z hz] at q;cases q;exact k z hz
 have gD:=(N1 _ (.head _)).1
 have S1:=S0.grow (xs:=ms1++l) (F:=F1) (N:=fun q hq=>by
  rcases qF.mp hq with hq | hq
  ·rcases qF.mp hq with hq | hq
   ·have ha:q.1∈ms1.map Prod.fst:=List.mem_map_of_mem hq
    rw [e1] at ha
    exact ⟨g1 q hq,hms2 _ ha⟩
   ·exact N1 q (.tail _ (qY _ hq))
  ·exact N1 q (.tail _ (qB _ hq))) (fun q hq=>by
  rcases qF.mp hq with hq | hq
  ·have ha:q.1∈ms1.map Prod.fst:=List.mem_map_of_mem hq
   rw [e1] at ha
   exact hcl r _ hRd q.1 ha q.2 (g1 q hq)
  ·exact hP.cln q hq)
 clear F1 N1
 refine assign_Tuple_tuple hA ⟨_,gD,rfl,_,rfl⟩ rfl rfl fun h2 he2=>?_
 have S2:=S1.keeps fun a o q=>he2 a o (vB (qU q)) q
 have F2:=S2.fr
 have N2:=S2.nw
 walk_at "rO"
 rename_i h3 F3 N3
 refine (S2.same F3 N3).set (i:=2) (by decide) fun h4 o4 S4 _=>?_
 have F4:=S4.fr
 have N4:=S4.nw
 walk_at "rO"
 exact k _ _ _ _ _ ms1 l r kd wv t1 ⟨hP,S4.less fun q hq=>by simpa using hq,u1 _ fun q hq=>S4.at (qY _ (qY _ hq)),e1,⟨rfl,rfl,rfl,rfl,rfl⟩,fun x hx=>qM hx⟩ (qN rfl)
end
noncomputable def wNm:Nat->String
 | 0=>"list"
 | 1=>"iterator"
 | _=>"stream"
def yXy (w N r:Nat) (TH:Addr) (e:Nat->Value) (m:Str->Option Value) (R:List (Addr×Obj)):Prop:=
 (w=0/\X2 fun HD cH=>m (Str.ofString "handed")=some (.ref HD)/\(HD,listOf ((List.range N).map e).toArray cH)∈R)\/(w=1/\X2 fun SRC o=>A4 (m (Str.ofString "handed")=some (.ref SRC)) ((SRC,o)∈R) (o=liObj TH r\/(r=N/\o=liEnd N)) (∀ q∈R,q=(SRC,o)\/q.1≠SRC))\/w=2
def yYd (w:Nat) (dn:Bool) (M:Int) (raw:Nat->Rw) (N:Nat) (wish:Int) (vs:List Value) (b h:Heap) (L:Addr) (m m':Str->Option Value) (dat:Nat->Option Value) (R:List (Addr×Obj)):Prop:=
 X8 fun oc' dat' ps' yQn R' e TH cT=>X8 fun LOG items c l r kd wv t=>
  A8 (LS b h L m' oc' dat' ps' yQn R') (yCo dn M raw N wish (if w=2 then (fun j=>vs.getD j .none) else e) kd wv l r) (∀ q∈l++R,q∈R') ((LOG,listOf items c)∈R'/\IntsAre items.toList ((List.range r).map Int.ofNat))
   (A5 (dat' 0=dat 0) (dat' 1=some (.ref TH)) (dat' 2=some wv) (dat' 3=some (.ref LOG)) (dat' 4=dat 4)) (m' (Str.ofString "came")=some (.str (Str.ofString kd) t)/\∀ x,x≠Str.ofString "came"->x≠Str.ofString "key"->x≠Str.ofString "handed"->m' x=m x)
   ((TH,listOf ((List.range N).map e).toArray cT)∈R'/\∀ j,j < N->X3 fun a t c=>e j=.ref a/\(a,listOf #[.int (j:Int) t] c)∈R') (yXy w N r TH e m' R')
theorem yVw {c:Nat}:yQI 0 (listOf #[] c):=⟨_,_,rfl,.nil⟩
theorem yYX {LOG:Addr} {r:Nat} {h:Heap} (x:LG LOG r h) {o:Obj} (g:h.get? LOG=some o):Cln (LOG,o):=by
 obtain ⟨lo,h1,_,_,rfl,_⟩:=x
 rw [h1] at g;cases g;exact yQe
section
variable {A:Around} {s:Shared} {b:Heap} {Q:VS} {E:VS}
theorem yYh {L f cA LOG RWS:Addr} {N cR:Nat} {vs:List Value} {raw:Nat->Rw} {e:Nat->Value} {m:Str->Option Value} {oc:Nat->Obj} {dat:Nat->Option Value} {ps:Array Value} {cds R:List (Addr×Obj)} {oC:Obj} {pm ctv:Value} {h bC:Heap} (X:(hd01.heap_1 w.params).In b) (T:Top p loose yQv mg mb b)
  (S:LS b h L m oc dat ps cds R) (hf:(f,kla_obj "<lambda>" yQg (lamPar (Str.ofString "thing") ⟨230,25,230,30⟩) (lamBody (thingEx ⟨230,54,230,59⟩ ⟨230,60,230,61⟩ ⟨230,54,230,62⟩) ⟨230,32,230,42⟩ ⟨230,43,230,46⟩ ⟨230,48,230,52⟩ ⟨230,32,230,63⟩) (lamScope (Str.ofString "thing")) (lamClos (cad L 3) (cad L 4)) pm cA ctv)∈R) (hc:(cA,oC)∈cds) (d3:dat 3=some (.ref LOG)) (d4:dat 4=some (.ref RWS)) (hR:(RWS,listOf vs.toArray cR)∈R) (hvs:vs.length=N) (h128:N < 128) (hv:∀ j,j < N->IsR (vs.getD j .none) (raw j))
  (he:∀ j,j < N->X3 fun a t c=>e j=.ref a/\(a,listOf #[.int (j:Int) t] c)∈R) (stC:b.StaysIn bC) (inC:∀ q∈C5 L oc++(129,tabObj ps)::(cds++R),bC.get? q.1=some q.2):yZR prog w bC LOG N raw (fun j x=>x=e j) (fun j=>vs.getD j .none) f:=by
 have inR:∀ q∈R,bC.get? q.1=some q.2:=fun q hq=>inC q (qB _ (.tail _ (qB _ hq)))
 obtain ⟨vsc,tc,_,k2,k3⟩:=S.tb.code _ hc
 exact yAu (RWS:=RWS) (X.keeps stC) (T.keeps stC) ⟨_,_,_,_,_,pm,cA,oC,vsc,tc,ctv,oc 3,oc 4,inR _ hf,inC _ (qB _ (.tail _ (qY _ hc))),k2,k3,inC _ (qY _ (c5_mem (i:=3) (by decide))),by rw [<- d3];exact S.cl 3 (by decide),inC _ (qY _ (c5_mem (i:=4) (by decide))),by rw [<- d4];exact S.cl 4 (by decide)⟩ (inR _ hR) hvs h128 hv fun j hj=>by
  obtain ⟨a,t,c,q1,q2⟩:=he j hj
  exact ⟨a,t,c,q1,inR _ q2⟩
theorem yBh {L f cA LOG RWS:Addr} {N cR:Nat} {vs:List Value} {raw:Nat->Rw} {m:Str->Option Value} {oc:Nat->Obj} {dat:Nat->Option Value} {ps:Array Value} {cds R:List (Addr×Obj)} {oC:Obj} {pm ctv:Value} {h bC:Heap} (X:(hd01.heap_1 w.params).In b) (T:Top p loose yQv mg mb b)
  (S:LS b h L m oc dat ps cds R) (hf:(f,kla_obj "<lambda>" yQg (lamPar (Str.ofString "k") ⟨233,36,233,37⟩) (lamBody (.Name (Str.ofString "k") ⟨233,61,233,62⟩) ⟨233,39,233,49⟩ ⟨233,50,233,53⟩ ⟨233,55,233,59⟩ ⟨233,39,233,63⟩) (lamScope (Str.ofString "k")) (lamClos (cad L 3) (cad L 4)) pm cA ctv)∈R) (hc:(cA,oC)∈cds) (d3:dat 3=some (.ref LOG)) (d4:dat 4=some (.ref RWS)) (hR:(RWS,listOf vs.toArray cR)∈R) (hvs:vs.length=N) (h128:N < 128) (hv:∀ j,j < N->IsR (vs.getD j .none) (raw j))
  (stC:b.StaysIn bC) (inC:∀ q∈C5 L oc++(129,tabObj ps)::(cds++R),bC.get? q.1=some q.2):yZR prog w bC LOG N raw (fun j x=>∃ t,x=.int j t) (fun j=>vs.getD j .none) f:=by
 have inR:∀ q∈R,bC.get? q.1=some q.2:=fun q hq=>inC q (qB _ (.tail _ (qB _ hq)))
 obtain ⟨vsc,tc,_,k2,k3⟩:=S.tb.code _ hc
 exact yAf (RWS:=RWS) (X.keeps stC) (T.keeps stC) ⟨_,_,_,_,_,pm,cA,oC,vsc,tc,ctv,oc 3,oc 4,inR _ hf,inC _ (qB _ (.tail _ (qY _ hc))),k2,k3,inC _ (qY _ (c5_mem (i:=3) (by decide))),by rw [<- d3];exact S.cl 3 (by decide),inC _ (qY _ (c5_mem (i:=4) (by decide))),by rw [<- d4];exact S.cl 4 (by decide)⟩ (inR _ hR) hvs h128 hv
end
namespace K_way_list
def zP (A:Around) (s:Shared) (b:Heap) (E:VS) (L fa RWS:Addr) (N cR:Nat) (vs:List Value) (raw:Nat->Rw) (wish M:Int) (dn:Bool) (m:Str->Option Value) (oc:Nat->Obj) (dat:Nat->Option Value) (ps:Array Value) (cds R:List (Addr×Obj)) (tz tw ty:Tok) (QF:Flow->Shared->Prop):Prop:=∀ (hd:A.depth<=495) (hu:A.units<=460) (hA:A.handled=none) (hfr:A.frames=some [envW L fa]) (X:(hd01.heap_1 w.params).In b) (T:Top p loose yQv mg mb b) (C:CodeHd b 131 129) (S0:LS b s.heap L m oc dat ps cds R) (hR:(RWS,listOf vs.toArray cR)∈R) (d4:dat 4=some (.ref RWS)) (hvs:vs.length=N) (h128:N < 128) (hv:∀ j,j < N->IsR (vs.getD j .none) (raw j)) (hM:∀ p,p < N->(raw p).t=false->-M<=(raw p).z/\(raw p).z<=M) (e_z:m (Str.ofString "size")=some (.int (N:Int) tz)) (e_w:m (Str.ofString "wish")=some (.int wish tw)) (e_l:m (Str.ofString "largest")=some (.bool dn)) (e_y:m (Str.ofString "way")=some (.str (Str.ofString "list") ty)) (k:∀ h' tk m',yYd 0 dn M raw N wish vs b h' L m m' dat R->wpAny (model prog w) A (execs (yQb.drop 6) (envW L fa)) QF E {s with heap:=h',toks:=tk}),
  wpAny (model prog w) A (execs yQb (envW L fa)) QF E s
def zc:=ep (U24 zP) ⟨({},(start default).1,default,fun O O=>True,0,0,0,0,0,[],fun O=>.thorn,0,0,true,fun O=>none,fun O=>default,fun O=>none,#[],[],[],0,0,0,fun O O=>True)⟩
def zd1:=zc.2.2.2.2.2.2.2.2
def zd2:=zd1.2.2.2.2.2.2.2.2
def A:=zc.1
def L:=zc.2.2.2.2.1
def N:=zc.2.2.2.2.2.2.2.1
def vs:=zd1.2.1
def raw:=zd1.2.2.1
def M:=zd1.2.2.2.2.1
def R:=zd2.2.2.2.1
def ty:=zd2.2.2.2.2.2.2.1
theorem zh:zP A zc.2.1 zc.2.2.1 zc.2.2.2.1 L zc.2.2.2.2.2.1 zc.2.2.2.2.2.2.1 N zd1.1 vs raw zd1.2.2.2.1 M zd1.2.2.2.2.2.1 zd1.2.2.2.2.2.2.1 zd1.2.2.2.2.2.2.2.1 zd2.1 zd2.2.1 zd2.2.2.1 R zd2.2.2.2.2.1 zd2.2.2.2.2.2.1 ty zd2.2.2.2.2.2.2.2:=by
 intro hd hu hA hfr X T C S0 hR d4 hvs h128 hv hM e_z e_w e_l e_y k
 refine yJe (qZ hd (by decide)) (qZ hu (by decide)) hA X T C S0 h128 e_z ?_
 rintro h1 tk1 m1 oc1 dat1 ps1 cds1 LOG TH f c e mk cT pm cA ctv oC ⟨S1,hne,hcA,⟨d10,d11,d13,d14⟩,hel,⟨gL,nL,bL⟩,off1⟩ hm1 e_k1
 conv in yQb.drop 3=>whnf
 have S2:=S1.grow (xs:=[(LOG,listOf #[] c)]) S1.fr (fun q hq=>by
  rcases qF.mp hq with hq | hq
  ·rw [qC.mp hq];exact ⟨gL,nL,bL⟩
  ·exact S1.nw q hq) (fun q hq=>by rw [qC.mp hq];exact yQe)
 have F2:=S2.fr
 have N2:=S2.nw
 have e_y1:m1 (Str.ofString "way")=some (.str (Str.ofString "list") ty):=(hm1 _ (by decide)).trans e_y
 walk_at "rN"
 refine S2.get (i:=1) (by decide) d11 ?_
 walk_at "rN"
 refine list_copyK F2 N2 (qW (S2.at (qB _ (.tail _ (.head _))))) (fun HD cH h3 F3 N3 l3=>?_) (by simp [sizeLine_eq];lia)
 have S3:=S2.grow (xs:=[(HD,listOf ((List.range N).map e).toArray cH)]) F3 N3 (fun q hq=>by rw [qC.mp hq];exact yQe)
 clear F2 N2 F3 N3
 have F3:=S3.fr
 have N3:=S3.nw
 walk_at "rN"
 rename_i h4 F4 N4 tk4
 dsimp only
 have S4:=S3.same F4 N4
 clear F4 N4
 have S5:=S4.less (xs:=(HD,listOf ((List.range N).map e).toArray cH)::(f,kla_obj "<lambda>" yQg (lamPar (Str.ofString "thing") ⟨230,25,230,30⟩) (lamBody (thingEx ⟨230,54,230,59⟩ ⟨230,60,230,61⟩ ⟨230,54,230,62⟩) ⟨230,32,230,42⟩ ⟨230,43,230,46⟩ ⟨230,48,230,52⟩ ⟨230,32,230,63⟩) (lamScope (Str.ofString "thing")) (lamClos (cad L 3) (cad L 4)) pm cA ctv)::(TH,listOf ((List.range N).map e).toArray cT)::(mk++R)) fun q hq=>by
  rcases qG.mp hq with rfl | hq
  ·exact .head _
  ·exact .tail _ (.tail _ hq)
 have gL4:=S4.nw (LOG,listOf #[] c) (qB _ (.tail _ (qB _ (.tail _ (.head _)))))
 have el5:∀ j,j < N->X3 fun a t c=>e j=.ref a/\(a,listOf #[.int (j:Int) t] c)∈(HD,listOf ((List.range N).map e).toArray cH)::(f,kla_obj "<lambda>" yQg (lamPar (Str.ofString "thing") ⟨230,25,230,30⟩) (lamBody (thingEx ⟨230,54,230,59⟩ ⟨230,60,230,61⟩ ⟨230,54,230,62⟩) ⟨230,32,230,42⟩ ⟨230,43,230,46⟩ ⟨230,48,230,52⟩ ⟨230,32,230,63⟩) (lamScope (Str.ofString "thing")) (lamClos (cad L 3) (cad L 4)) pm cA ctv)::(TH,listOf ((List.range N).map e).toArray cT)::(mk++R):=fun j hj=>by
  obtain ⟨a,t,ca,q1,q2⟩:=hel j hj
  exact ⟨a,t,ca,q1,.tail _ (.tail _ (.tail _ (qY _ q2)))⟩
 refine yWJ (N:=N) (raw:=raw) (e:=e) (rv:=fun j=>vs.getD j .none) (LOG:=LOG) (lo:=listOf #[] c) (ms0:=[(LOG,listOf #[] c)]) (Rd:=LG LOG) (M:=M) (SRC:=HD) (kv:=.ref f) hd hu hA hfr X T S5 (fun q hq=>by rw [qC.mp hq];exact ⟨gL4.1,gL4.2.1,gL4.2.2⟩) (fun q hq r hr=>?_) yVG (fun j h x a ha=>by
   obtain ⟨lo,g,_⟩:=x
   rw [qC.mp ha];exact ⟨lo,g⟩) ⟨_,gL4.1,yVw⟩ (fun r h x a ha o g=>by
   rw [qC.mp ha] at g ⊢;exact yYX x g) (fun bC stC inC noC=>?_) h128 (fun j hj hn=>(hv j hj).elim (fun z=>absurd z.2 hn) id) hM (by exact (hm1 _ (by decide)).trans e_w) (by exact (hm1 _ (by decide)).trans e_l) (by rfl) (by exact e_k1) ?_
 ·rw [qC.mp hr]
  rcases qF.mp hq with hq | hq
  ·exact off1 q (qY _ hq)
  rcases qG.mp hq with rfl | hq
  ·exact off1 _ (qB _ (.head _))
  rcases qF.mp hq with hq | hq
  ·exact off1 q (qB _ (.tail _ (qY _ hq)))
  rcases qG.mp hq with rfl | hq
  ·exact vF (vB (l3 (LOG,listOf #[] c) (qB _ (.tail _ (qB _ (.head _))))))
  ·exact off1 q (qB _ (.tail _ (qB _ hq)))
 ·have inR:∀ {q:Addr×Obj},q∈_->bC.get? q.1=some q.2:=fun {q} hq=>inC q (qB _ (.tail _ (qB _ hq)))
  exact .inl ⟨f,_,HD,cH,rfl,⟨inR (.tail _ (.head _)),_,rfl⟩,yYh X T S5 (.tail _ (.head _)) hcA d13 (by rw [d14];exact d4) (.tail _ (.tail _ (.tail _ (qB _ hR)))) hvs h128 hv el5 stC inC,inR (.head _),⟨noC _ (.head _),yVw⟩,.inl ⟨rfl,rfl,rfl⟩,fun j hj=>by
   obtain ⟨a,t,ca,q1,q2⟩:=el5 j hj
   exact ⟨a,_,ca,q1,inR q2⟩⟩
 ·rintro h' tk m' oc' dat' ms1 l r kd wv t ⟨hO,S6,hRd,hms,⟨a0,a1,a2,a3,a4⟩,hm6⟩ hkd
  obtain ⟨lo,g6,items,c6,rfl,il⟩:=hRd
  have mL:(LOG,listOf items c6)∈ms1:=by
   cases ms1 with
   | nil=>cases hms
   | cons q r=>
    obtain ⟨q1,q2⟩:=q
    have e1:q1=LOG:=(List.cons.inj hms).1
    have g7:=S6.at (q:=(q1,q2)) (qY _ (.head _))
    dsimp only at g7
    rw [e1,g6] at g7
    cases g7
    rw [e1];exact .head _
  refine k h' tk m' ⟨oc',dat',ps1,cds1,_,e,TH,cT,LOG,items,c6,l,r,kd,wv,t,S6,hO,fun q hq=>?_,⟨qY _ mL,il⟩,⟨a0.trans d10,a1.trans d11,a2,a3.trans d13,a4.trans d14⟩,⟨hkd,fun x x1 x2 x3=>?_⟩,⟨qB _ (qB _ (.tail _ (.tail _ (.head _)))),fun j hj=>?_⟩,.inl ⟨rfl,HD,cH,?_,qB _ (qB _ (.head _))⟩⟩
  ·rcases qF.mp hq with hq | hq
   ·exact qB _ (qY _ hq)
   ·exact qB _ (qB _ (.tail _ (.tail _ (.tail _ (qB _ hq)))))
  ·exact (hm6 x x1).trans ((qM x3).trans (hm1 x x2))
  ·obtain ⟨a,t,ca,q1,q2⟩:=el5 j hj
   exact ⟨a,t,ca,q1,qB _ (qB _ q2)⟩
  ·exact (hm6 _ (by decide)).trans (qN rfl)
end K_way_list
theorem yZW {A s b E L fa RWS N cR vs raw wish M dn m oc dat ps cds R tz tw ty QF}:K_way_list.zP A s b E L fa RWS N cR vs raw wish M dn m oc dat ps cds R tz tw ty QF:=eps (P:=U24 K_way_list.zP) K_way_list.zh (A,s,b,E,L,fa,RWS,N,cR,vs,raw,wish,M,dn,m,oc,dat,ps,cds,R,tz,tw,ty,QF)
theorem yBm {LST LOG IT:Addr} {N r:Nat} {h:Heap} (x:StL LST LOG IT N r h) {a:Addr} (ha:a∈[IT,LOG]) {o:Obj} (g:h.get? a=some o):Cln (a,o):=by
 simp only [qG,wG,or_false] at ha
 rcases ha with rfl | rfl
 ·rcases x.1 with z | ⟨_,z⟩
  ·rw [z] at g;cases g;exact yQu
  ·rw [z] at g;cases g;exact yQu
 ·exact yYX x.2 g
namespace K_way_iter
def zP (A:Around) (s:Shared) (b:Heap) (E:VS) (L fa RWS:Addr) (N cR:Nat) (vs:List Value) (raw:Nat->Rw) (wish M:Int) (dn:Bool) (m:Str->Option Value) (oc:Nat->Obj) (dat:Nat->Option Value) (ps:Array Value) (cds R:List (Addr×Obj)) (tz tw ty:Tok) (QF:Flow->Shared->Prop):Prop:=∀ (hd:A.depth<=495) (hu:A.units<=460) (hA:A.handled=none) (hfr:A.frames=some [envW L fa]) (X:(hd01.heap_1 w.params).In b) (T:Top p loose yQv mg mb b) (C:CodeHd b 131 129) (S0:LS b s.heap L m oc dat ps cds R) (hR:(RWS,listOf vs.toArray cR)∈R) (d4:dat 4=some (.ref RWS)) (hvs:vs.length=N) (h128:N < 128) (hv:∀ j,j < N->IsR (vs.getD j .none) (raw j)) (hM:∀ p,p < N->(raw p).t=false->-M<=(raw p).z/\(raw p).z<=M) (e_z:m (Str.ofString "size")=some (.int (N:Int) tz)) (e_w:m (Str.ofString "wish")=some (.int wish tw)) (e_l:m (Str.ofString "largest")=some (.bool dn)) (e_y:m (Str.ofString "way")=some (.str (Str.ofString "iterator") ty)) (k:∀ h' tk m',yYd 1 dn M raw N wish vs b h' L m m' dat R->wpAny (model prog w) A (execs (yQb.drop 6) (envW L fa)) QF E {s with heap:=h',toks:=tk}),
  wpAny (model prog w) A (execs yQb (envW L fa)) QF E s
def zc:=ep (U24 zP) ⟨({},(start default).1,default,fun O O=>True,0,0,0,0,0,[],fun O=>.thorn,0,0,true,fun O=>none,fun O=>default,fun O=>none,#[],[],[],0,0,0,fun O O=>True)⟩
def zd1:=zc.2.2.2.2.2.2.2.2
def zd2:=zd1.2.2.2.2.2.2.2.2
def A:=zc.1
def s:=zc.2.1
def L:=zc.2.2.2.2.1
def N:=zc.2.2.2.2.2.2.2.1
def vs:=zd1.2.1
def raw:=zd1.2.2.1
def M:=zd1.2.2.2.2.1
def R:=zd2.2.2.2.1
def ty:=zd2.2.2.2.2.2.2.1
theorem zh:zP A s zc.2.2.1 zc.2.2.2.1 L zc.2.2.2.2.2.1 zc.2.2.2.2.2.2.1 N zd1.1 vs raw zd1.2.2.2.1 M zd1.2.2.2.2.2.1 zd1.2.2.2.2.2.2.1 zd1.2.2.2.2.2.2.2.1 zd2.1 zd2.2.1 zd2.2.2.1 R zd2.2.2.2.2.1 zd2.2.2.2.2.2.1 ty zd2.2.2.2.2.2.2.2:=by
 intro hd hu hA hfr X T C S0 hR d4 hvs h128 hv hM e_z e_w e_l e_y k
 refine yJe (qZ hd (by decide)) (qZ hu (by decide)) hA X T C S0 h128 e_z ?_
 rintro h1 tk1 m1 oc1 dat1 ps1 cds1 LOG TH f c e mk cT pm cA ctv oC ⟨S1,hne,hcA,⟨d10,d11,d13,d14⟩,hel,⟨gL,nL,bL⟩,off1⟩ hm1 e_k1
 conv in yQb.drop 3=>whnf
 have S2:=S1.grow (xs:=[(LOG,listOf #[] c)]) S1.fr (fun q hq=>by
  rcases qF.mp hq with hq | hq
  ·rw [qC.mp hq];exact ⟨gL,nL,bL⟩
  ·exact S1.nw q hq) (fun q hq=>by rw [qC.mp hq];exact yQe)
 have F2:=S2.fr
 have N2:=S2.nw
 have e_y1:m1 (Str.ofString "way")=some (.str (Str.ofString "iterator") ty):=(hm1 _ (by decide)).trans e_y
 walk_at "rN"
 refine S2.get (i:=1) (by decide) d11 ?_
 walk_at "rN"
 obtain ⟨SRC,hSRC⟩:∃ SRC:Addr,SRC=h1.objs.size:=⟨_,rfl⟩
 refine yQE (S2.at (qB _ (.tail _ (.head _)))) ?_
 have l3:∀ q∈C5 L oc1++(129,tabObj ps1)::(cds1++([(LOG,listOf #[] c)]++_)),q.1 < SRC:=fun q hq=>by rw [hSRC];exact qU (S2.nw q hq).1
 have S3:=S2.grow (xs:=[(SRC,liObj TH 0)]) (F2.push (liObj TH 0)) (by rw [hSRC];exact N2.push F2 (liObj TH 0)) (fun q hq=>by rw [qC.mp hq];exact yQu)
 rw [show ({s with heap:=h1,toks:=tk1}:Shared).heap.objs.size=SRC from hSRC.symm]
 generalize h1.push (liObj TH 0)=h3 at S3
 clear F2 N2
 have F3:=S3.fr
 have N3:=S3.nw
 walk_at "rN"
 rename_i h4 F4 N4 tk4
 dsimp only
 have S4:=S3.same F4 N4
 clear F4 N4
 have S5:=S4.less (xs:=(f,kla_obj "<lambda>" yQg (lamPar (Str.ofString "thing") ⟨230,25,230,30⟩) (lamBody (thingEx ⟨230,54,230,59⟩ ⟨230,60,230,61⟩ ⟨230,54,230,62⟩) ⟨230,32,230,42⟩ ⟨230,43,230,46⟩ ⟨230,48,230,52⟩ ⟨230,32,230,63⟩) (lamScope (Str.ofString "thing")) (lamClos (cad L 3) (cad L 4)) pm cA ctv)::(TH,listOf ((List.range N).map e).toArray cT)::(mk++R)) fun q hq=>.tail _ (.tail _ hq)
 have gS4:=S4.nw (SRC,liObj TH 0) (qB _ (.tail _ (qB _ (.head _))))
 have gL4:=S4.nw (LOG,listOf #[] c) (qB _ (.tail _ (qB _ (.tail _ (.head _)))))
 have l5:∀ q∈C5 L oc1++(129,tabObj ps1)::(cds1++((f,kla_obj "<lambda>" yQg (lamPar (Str.ofString "thing") ⟨230,25,230,30⟩) (lamBody (thingEx ⟨230,54,230,59⟩ ⟨230,60,230,61⟩ ⟨230,54,230,62⟩) ⟨230,32,230,42⟩ ⟨230,43,230,46⟩ ⟨230,48,230,52⟩ ⟨230,32,230,63⟩) (lamScope (Str.ofString "thing")) (lamClos (cad L 3) (cad L 4)) pm cA ctv)::(TH,listOf ((List.range N).map e).toArray cT)::(mk++R))),q.1 < SRC:=fun q hq=>l3 q (by
  rcases qF.mp hq with hq | hq
  ·exact qY _ hq
  rcases qG.mp hq with rfl | hq
  ·exact qB _ (.head _)
  rcases qF.mp hq with hq | hq
  ·exact qB _ (.tail _ (qY _ hq))
  ·exact qB _ (.tail _ (qB _ (.tail _ hq))))
 have nSL:SRC≠LOG:=ne_of_gt (l3 (LOG,listOf #[] c) (qB _ (.tail _ (qB _ (.head _)))))
 have el5:∀ j,j < N->X3 fun a t c=>e j=.ref a/\(a,listOf #[.int (j:Int) t] c)∈(f,kla_obj "<lambda>" yQg (lamPar (Str.ofString "thing") ⟨230,25,230,30⟩) (lamBody (thingEx ⟨230,54,230,59⟩ ⟨230,60,230,61⟩ ⟨230,54,230,62⟩) ⟨230,32,230,42⟩ ⟨230,43,230,46⟩ ⟨230,48,230,52⟩ ⟨230,32,230,63⟩) (lamScope (Str.ofString "thing")) (lamClos (cad L 3) (cad L 4)) pm cA ctv)::(TH,listOf ((List.range N).map e).toArray cT)::(mk++R):=fun j hj=>by
  obtain ⟨a,t,ca,q1,q2⟩:=hel j hj
  exact ⟨a,t,ca,q1,.tail _ (.tail _ (qY _ q2))⟩
 refine yWJ (N:=N) (raw:=raw) (e:=e) (rv:=fun j=>vs.getD j .none) (LOG:=LOG) (lo:=listOf #[] c) (ms0:=[(SRC,liObj TH 0),(LOG,listOf #[] c)]) (Rd:=StL TH LOG SRC N) (M:=M) (SRC:=SRC) (kv:=.ref f) hd hu hA hfr X T S5 (fun q hq=>by
   simp only [qG,wG,or_false] at hq
   rcases hq with rfl | rfl
   ·exact ⟨gS4.1,gS4.2.1,gS4.2.2⟩
   ·exact ⟨gL4.1,gL4.2.1,gL4.2.2⟩) (fun q hq r hr=>by
   simp only [qG,wG,or_false] at hr
   rcases hr with rfl | rfl
   ·exact vB (l5 q hq)
   ·exact off1 q hq) yCI yBe ⟨.inl gS4.1,_,gL4.1,yVw⟩ (fun r h x a ha o g=>yBm x ha g) (fun bC stC inC noC=>?_) h128 (fun j hj hn=>(hv j hj).elim (fun z=>absurd z.2 hn) id) hM (by exact (hm1 _ (by decide)).trans e_w) (by exact (hm1 _ (by decide)).trans e_l) (by rfl) (by exact e_k1) ?_
 ·have inR:∀ {q:Addr×Obj},q∈_->bC.get? q.1=some q.2:=fun {q} hq=>inC q (qB _ (.tail _ (qB _ hq)))
  exact .inl ⟨f,_,TH,cT,rfl,⟨inR (.head _),_,rfl⟩,yYh X T S5 (.head _) hcA d13 (by rw [d14];exact d4) (.tail _ (.tail _ (qB _ hR))) hvs h128 hv el5 stC inC,inR (.tail _ (.head _)),⟨noC _ (.tail _ (.head _)),yVw⟩,.inr ⟨gS4.1,nSL,rfl,rfl⟩,fun j hj=>by
   obtain ⟨a,t,ca,q1,q2⟩:=el5 j hj
   exact ⟨a,_,ca,q1,inR q2⟩⟩
 ·rintro h' tk m' oc' dat' ms1 l r kd wv t ⟨hO,S6,hRd,hms,⟨a0,a1,a2,a3,a4⟩,hm6⟩ hkd
  obtain ⟨hS,lo,g6,items,c6,rfl,il⟩:=hRd
  obtain ⟨oS,oL,rfl⟩:∃ oS oL,ms1=[(SRC,oS),(LOG,oL)]:=by
   rcases ms1 with _ | ⟨⟨q1,q2⟩,_ | ⟨⟨q3,q4⟩,r⟩⟩
   ·cases hms
   ·have:=wE List.length hms;simp at this
   ·have e1:=List.cons.inj hms
    have e2:=List.cons.inj e1.2
    have e3:r=[]:=List.map_eq_nil_iff.mp e2.2
    exact ⟨q2,q4,by rw [<- show q1=SRC from e1.1,<- show q3=LOG from e2.1,e3]⟩
  have gS:=S6.at (q:=(SRC,oS)) (.head _)
  have gL7:=S6.at (q:=(LOG,oL)) (.tail _ (.head _))
  dsimp only at gS gL7
  rw [g6] at gL7
  cases gL7
  refine k h' tk m' ⟨oc',dat',ps1,cds1,_,e,TH,cT,LOG,items,c6,l,r,kd,wv,t,S6,hO,fun q hq=>?_,⟨.tail _ (.head _),il⟩,⟨a0.trans d10,a1.trans d11,a2,a3.trans d13,a4.trans d14⟩,⟨hkd,fun x x1 x2 x3=>?_⟩,⟨qB _ (qB _ (.tail _ (.head _))),fun j hj=>?_⟩,.inr (.inl ⟨rfl,SRC,oS,?_,.head _,?_,fun q hq=>?_⟩)⟩
  ·rcases qF.mp hq with hq | hq
   ·exact qB _ (qY _ hq)
   ·exact qB _ (qB _ (.tail _ (.tail _ (qB _ hq))))
  ·exact (hm6 x x1).trans ((qM x3).trans (hm1 x x2))
  ·obtain ⟨a,t,ca,q1,q2⟩:=el5 j hj
   exact ⟨a,t,ca,q1,qB _ (qB _ q2)⟩
  ·exact (hm6 _ (by decide)).trans (qN rfl)
  ·rcases hS with z | ⟨z1,z⟩
   ·rw [z] at gS;cases gS;exact .inl rfl
   ·rw [z] at gS;cases gS;exact .inr ⟨z1,rfl⟩
  ·have hq0:=hq
   rcases qG.mp hq with rfl | hq
   ·exact .inl rfl
   rcases qG.mp hq with rfl | hq
   ·exact .inr (vF nSL)
   rcases qF.mp (show q∈l++_ from hq) with hq | hq
   ·refine .inr (led_ne S6.nw (qB _ (.tail _ (qB _ hq0))) (r:=(SRC,oS)) (qB _ (.tail _ (qB _ (.head _)))) fun e=>?_)
    have e:=wE Obj.data e
    rcases hO with ⟨_,_,_,_,_,rfl,_⟩ | ⟨_,_,_,_,rfl,_⟩ | ⟨_,_,_,_,rfl,_⟩
    ·rw [qC.mp hq] at e
     rcases hS with z | ⟨z1,z⟩
     ·rw [z] at gS;cases gS;simp [W.listOf,liObj] at e
     ·rw [z] at gS;cases gS;simp [W.listOf,liEnd] at e
    ·cases hq
    ·cases hq
   ·exact .inr (vB (l5 q (qB _ (.tail _ (qB _ hq)))))
end K_way_iter
theorem yZX {A s b E L fa RWS N cR vs raw wish M dn m oc dat ps cds R tz tw ty QF}:K_way_iter.zP A s b E L fa RWS N cR vs raw wish M dn m oc dat ps cds R tz tw ty QF:=eps (P:=U24 K_way_iter.zP) K_way_iter.zh (A,s,b,E,L,fa,RWS,N,cR,vs,raw,wish,M,dn,m,oc,dat,ps,cds,R,tz,tw,ty,QF)
theorem LS.mem {b h:Heap} {L:Addr} {m:Str->Option Value} {oc:Nat->Obj} {dat:Nat->Option Value} {ps:Array Value} {cds R:List (Addr×Obj)} (_:LS b h L m oc dat ps cds R) {q:Addr×Obj} (hq:q∈R):q∈C5 L oc++(129,tabObj ps)::(cds++R):=qB _ (.tail _ (qB _ hq))
namespace K_way_stream
def zP (A:Around) (s:Shared) (b:Heap) (E:VS) (L fa RWS:Addr) (N cR:Nat) (vs:List Value) (raw:Nat->Rw) (wish M:Int) (dn:Bool) (m:Str->Option Value) (oc:Nat->Obj) (dat:Nat->Option Value) (ps:Array Value) (cds R:List (Addr×Obj)) (tz tw ty:Tok) (QF:Flow->Shared->Prop):Prop:=∀ (hd:A.depth<=495) (hu:A.units<=460) (hA:A.handled=none) (hfr:A.frames=some [envW L fa]) (X:(hd01.heap_1 w.params).In b) (T:Top p loose yQv mg mb b) (C:CodeHd b 131 129) (S0:LS b s.heap L m oc dat ps cds R) (hR:(RWS,listOf vs.toArray cR)∈R) (d4:dat 4=some (.ref RWS)) (hvs:vs.length=N) (h128:N < 128) (hv:∀ j,j < N->IsR (vs.getD j .none) (raw j)) (hM:∀ p,p < N->(raw p).t=false->-M<=(raw p).z/\(raw p).z<=M) (e_z:m (Str.ofString "size")=some (.int (N:Int) tz)) (e_w:m (Str.ofString "wish")=some (.int wish tw)) (e_l:m (Str.ofString "largest")=some (.bool dn)) (e_y:m (Str.ofString "way")=some (.str (Str.ofString "stream") ty)) (k:∀ h' tk m',yYd 2 dn M raw N wish vs b h' L m m' dat R->wpAny (model prog w) A (execs (yQb.drop 6) (envW L fa)) QF E {s with heap:=h',toks:=tk}),
  wpAny (model prog w) A (execs yQb (envW L fa)) QF E s
def zc:=ep (U24 zP) ⟨({},(start default).1,default,fun O O=>True,0,0,0,0,0,[],fun O=>.thorn,0,0,true,fun O=>none,fun O=>default,fun O=>none,#[],[],[],0,0,0,fun O O=>True)⟩
def zd1:=zc.2.2.2.2.2.2.2.2
def zd2:=zd1.2.2.2.2.2.2.2.2
def A:=zc.1
def s:=zc.2.1
def b:=zc.2.2.1
def L:=zc.2.2.2.2.1
def N:=zc.2.2.2.2.2.2.2.1
def vs:=zd1.2.1
def raw:=zd1.2.2.1
def M:=zd1.2.2.2.2.1
def R:=zd2.2.2.2.1
def tz:=zd2.2.2.2.2.1
def ty:=zd2.2.2.2.2.2.2.1
theorem zh:zP A s b zc.2.2.2.1 L zc.2.2.2.2.2.1 zc.2.2.2.2.2.2.1 N zd1.1 vs raw zd1.2.2.2.1 M zd1.2.2.2.2.2.1 zd1.2.2.2.2.2.2.1 zd1.2.2.2.2.2.2.2.1 zd2.1 zd2.2.1 zd2.2.2.1 R tz zd2.2.2.2.2.2.1 ty zd2.2.2.2.2.2.2.2:=by
 intro hd hu hA hfr X T C S0 hR d4 hvs h128 hv hM e_z e_w e_l e_y k
 refine yJe (qZ hd (by decide)) (qZ hu (by decide)) hA X T C S0 h128 e_z ?_
 rintro h1 tk1 m1 oc1 dat1 ps1 cds1 LOG TH f c e mk cT pm cA ctv oC ⟨S1,hne,hcA,⟨d10,d11,d13,d14⟩,hel,⟨gL,nL,bL⟩,off1⟩ hm1 e_k1
 conv in yQb.drop 3=>whnf
 have S2:=S1.grow (xs:=[(LOG,listOf #[] c)]) S1.fr (fun q hq=>by
  rcases qF.mp hq with hq | hq
  ·rw [qC.mp hq];exact ⟨gL,nL,bL⟩
  ·exact S1.nw q hq) (fun q hq=>by rw [qC.mp hq];exact yQe)
 have F2:=S2.fr
 have N2:=S2.nw
 have e_y1:m1 (Str.ofString "way")=some (.str (Str.ofString "stream") ty):=(hm1 _ (by decide)).trans e_y
 walk_at "rN"
 refine S2.get (i:=1) (by decide) d11 ?_
 walk_at "rN"
 obtain ⟨SRC,hSRC⟩:∃ SRC:Addr,SRC=h1.objs.size:=⟨_,rfl⟩
 refine yQE (S2.at (qB _ (.tail _ (.head _)))) ?_
 have l3:∀ q∈C5 L oc1++(129,tabObj ps1)::(cds1++([(LOG,listOf #[] c)]++_)),q.1 < SRC:=fun q hq=>by rw [hSRC];exact qU (S2.nw q hq).1
 have S3:=S2.grow (xs:=[(SRC,liObj TH 0)]) (F2.push (liObj TH 0)) (by rw [hSRC];exact N2.push F2 (liObj TH 0)) (fun q hq=>by rw [qC.mp hq];exact yQu)
 rw [show ({s with heap:=h1,toks:=tk1}:Shared).heap.objs.size=SRC from hSRC.symm]
 generalize h1.push (liObj TH 0)=h3 at S3
 clear F2 N2
 have F3:=S3.fr
 have N3:=S3.nw
 walk_at "rN"
 rename_i h4 F4 N4
 have S4:=S3.same F4 N4
 have e_z1:m1 (Str.ofString "size")=some (.int (N:Int) tz):=(hm1 _ (by decide)).trans e_z
 walk_at "rI"
 refine S4.lam (clos:=lamClos (cad L 3) (cad L 4)) T C (by rfl) (by kernel_rfl) (.inr ⟨hne,rfl,rfl⟩) fun f2 q2 ps5 cds5 pm2 ctv2 h5 tk5 S5 hne5 hq5=>?_
 obtain ⟨cA2,oC2⟩:=q2
 clear F4 N4
 have F5:=S5.fr
 have N5:=S5.nw
 walk_at "rI"
 rename_i h6 tk6 t1 u1 v1 hr F6 N6 k6
 have S6:=S5.same F6 N6
 refine yWZ hr fun h7 Z TI RI ⟨nRz,nTz,nRT,gz,gT,gR⟩ ⟨nz,nT,nR,st7⟩=>?_
 have hrs:Builtin.Range.rangeSize 0 (N:Int) 1=(N:Int):=rangeSize_nat _ _
 rw [hrs] at gR
 have nf:∀ {a:Addr} {o:Obj},h6.get? a=none->h7.get? a=some o->h7.get? a=some o/\a≠L/\b.get? a=none:=fun q1 q2=>⟨q2,fun e=>by
  obtain ⟨o,ho⟩:=yQk S6.fr.ns
  rw [<- e] at ho
  exact absurd ho (by rw [show h6.get? _=none from q1];(intro z;cases z)),none_sub S6.fr.keep q1⟩
 have S7:=S6.grow (xs:=[(RI,rgObj (rgT 0 N 1) 0 N 1),(Z,mapObj TI f2),(TI,oneObj (.ref RI))]) (fr_keeps F6 st7) (fun q hq=>by
  rcases qF.mp hq with hq | hq
  ·simp only [qG,wG,or_false] at hq
   rcases hq with rfl | rfl | rfl
   ·exact nf nR gR
   ·exact nf nz gz
   ·exact nf nT gT
  ·exact news_keeps N6 st7 q hq) (fun q hq=>by
  simp only [qG,wG,or_false] at hq
  rcases hq with rfl | rfl | rfl
  ·exact yQu
  ·exact yQu
  ·exact yZr)
 clear F6 N6
 have F7:=S7.fr
 have N7:=S7.nw
 walk_at "rN"
 rename_i hX tkX h8 F8 N8
 dsimp only
 have S8:=S7.same F8 N8
 clear F8 N8
 have S9:=S8.less (xs:=(Z,mapObj TI f2)::(TI,oneObj (.ref RI))::(f2,kla_obj "<lambda>" yQg (lamPar (Str.ofString "k") ⟨233,36,233,37⟩) (lamBody (.Name (Str.ofString "k") ⟨233,61,233,62⟩) ⟨233,39,233,49⟩ ⟨233,50,233,53⟩ ⟨233,55,233,59⟩ ⟨233,39,233,63⟩) (lamScope (Str.ofString "k")) (lamClos (cad L 3) (cad L 4)) pm2 cA2 ctv2)::(TH,listOf ((List.range N).map e).toArray cT)::(mk++R)) fun q hq=>by
  rcases qG.mp hq with rfl | hq
  ·exact .tail _ (.head _)
  rcases qG.mp hq with rfl | hq
  ·exact .tail _ (.tail _ (.head _))
  rcases qG.mp hq with rfl | hq
  ·exact .tail _ (.tail _ (.tail _ (.head _)))
  ·exact .tail _ (.tail _ (.tail _ (.tail _ (.tail _ (.tail _ (.tail _ hq))))))
 have mL8:=S8.mem (q:=(LOG,listOf #[] c)) (.tail _ (.tail _ (.tail _ (.tail _ (.tail _ (.head _))))))
 have gR4:=S8.nw (RI,rgObj (rgT 0 N 1) 0 N 1) (S8.mem (.head _))
 have gL4:=S8.nw (LOG,listOf #[] c) mL8
 have gL6:h6.get? LOG=some (listOf #[] c):=S6.at (.tail _ (.tail _ (.head _)))
 have off9:∀ q∈C5 L oc1++(129,tabObj ps5)::(cds5++((Z,mapObj TI f2)::(TI,oneObj (.ref RI))::(f2,kla_obj "<lambda>" yQg (lamPar (Str.ofString "k") ⟨233,36,233,37⟩) (lamBody (.Name (Str.ofString "k") ⟨233,61,233,62⟩) ⟨233,39,233,49⟩ ⟨233,50,233,53⟩ ⟨233,55,233,59⟩ ⟨233,39,233,63⟩) (lamScope (Str.ofString "k")) (lamClos (cad L 3) (cad L 4)) pm2 cA2 ctv2)::(TH,listOf ((List.range N).map e).toArray cT)::(mk++R))),q.1≠LOG/\q.1≠RI:=fun q hq=>by
  have old:∀ {q:Addr×Obj},h6.get? q.1=some q.2->q.1≠RI:=fun {q} g e=>by rw [e,show h6.get? RI=none from nR] at g;cases g
  rcases qF.mp hq with hq | hq
  ·exact ⟨off1 q (qY _ hq),old (S6.nw q (qY _ hq)).1⟩
  rcases qG.mp hq with rfl | hq
  ·exact ⟨off1 (129,tabObj ps1) (qB _ (.head _)),old (S6.nw _ (qB _ (.head _))).1⟩
  rcases qF.mp hq with hq | hq
  ·refine ⟨led_ne S8.nw (qB _ (.tail _ (qY _ hq))) mL8 fun e=>?_,old (S6.nw q (qB _ (.tail _ (qY _ hq)))).1⟩
   obtain ⟨_,_,_,hf,_⟩:=S8.tb.code q hq
   rw [e] at hf
   simp [W.listOf] at hf
  rcases qG.mp hq with rfl | hq
  ·exact ⟨fun e=>(by dsimp only at e;rw [e] at nz;rw [show h6.get? LOG=none from nz] at gL6;cases gL6),vF nRz⟩
  rcases qG.mp hq with rfl | hq
  ·exact ⟨fun e=>(by dsimp only at e;rw [e] at nT;rw [show h6.get? LOG=none from nT] at gL6;cases gL6),vF nRT⟩
  rcases qG.mp hq with rfl | hq
  ·exact ⟨led_ne S8.nw (S8.mem (.tail _ (.tail _ (.tail _ (.head _))))) mL8 fun e=>by have:=wE Obj.cls e;simp [W.listOf] at this,old (S6.at (.head _))⟩
  ·exact ⟨off1 q (qB _ (.tail _ (qB _ (.tail _ hq)))),old (S6.at (q:=q) (.tail _ (.tail _ (.tail _ (.tail _ hq)))))⟩
 have nRL:RI≠LOG:=fun e=>by rw [e] at nR;rw [show h6.get? LOG=none from nR] at gL6;cases gL6
 have e0:rgObj (rgT 0 N 1) (0+((0:Nat):Int) * 1) ((N:Int) - ((0:Nat):Int)) 1=rgObj (rgT 0 N 1) 0 N 1:=by simp
 refine yWJ (N:=N) (raw:=raw) (e:=fun j=>vs.getD j .none) (rv:=fun j=>vs.getD j .none) (LOG:=LOG) (lo:=listOf #[] c) (ms0:=[(RI,rgObj (rgT 0 N 1) 0 N 1),(LOG,listOf #[] c)]) (Rd:=StS (rgT 0 N 1) LOG RI N) (M:=M) (SRC:=Z) (kv:=.none) hd hu hA hfr X T S9 (fun q hq=>by
   simp only [qG,wG,or_false] at hq
   rcases hq with rfl | rfl
   ·exact ⟨gR4.1,gR4.2.1,gR4.2.2⟩
   ·exact ⟨gL4.1,gL4.2.1,gL4.2.2⟩) (fun q hq r hr=>by
   simp only [qG,wG,or_false] at hr
   rcases hr with rfl | rfl
   ·exact (off9 q hq).2
   ·exact (off9 q hq).1) yBF yZG ⟨by rw [e0];exact gR4.1,_,gL4.1,yVw⟩ (fun r h x a ha o g=>by
   simp only [map_cons,map_nil,qG,wG,or_false] at ha
   rcases ha with rfl | rfl
   ·rw [x.1] at g;cases g;exact yQu
   ·exact yYX x.2 g) (fun bC stC inC noC=>?_) h128 (fun j hj hn=>(hv j hj).elim (fun z=>absurd z.2 hn) id) hM (by exact (hm1 _ (by decide)).trans e_w) (by exact (hm1 _ (by decide)).trans e_l) (by rfl) (by rfl) ?_
 ·have inR:∀ {q:Addr×Obj},q∈_->bC.get? q.1=some q.2:=fun {q} hq=>inC q (qB _ (.tail _ (qB _ hq)))
  exact .inr ⟨f2,TI,RI,rgT 0 N 1,rfl,fun O O=>rfl,inR (.head _),inR (.tail _ (.head _)),yYA,nRL,noC _ (.head _),yBh X T S9 (.tail _ (.tail _ (.head _))) hq5 d13 (by rw [d14];exact d4) (.tail _ (.tail _ (.tail _ (.tail _ (qB _ hR))))) hvs h128 hv stC inC,by rw [e0],yVw,rfl⟩
 ·rintro h' tk m' oc' dat' ms1 l r kd wv t ⟨hO,SA,hRd,hms,⟨a0,a1,a2,a3,a4⟩,hm6⟩ hkd
  obtain ⟨_,lo,g6,items,c6,rfl,il⟩:=hRd
  obtain ⟨oS,oL,rfl⟩:∃ oS oL,ms1=[(RI,oS),(LOG,oL)]:=by
   rcases ms1 with _ | ⟨⟨q1,q2⟩,_ | ⟨⟨q3,q4⟩,r⟩⟩
   ·cases hms
   ·have:=wE List.length hms;simp at this
   ·have e1:=List.cons.inj hms
    have e2:=List.cons.inj e1.2
    have e3:r=[]:=List.map_eq_nil_iff.mp e2.2
    exact ⟨q2,q4,by rw [<- show q1=RI from e1.1,<- show q3=LOG from e2.1,e3]⟩
  have gL7:=SA.at (q:=(LOG,oL)) (.tail _ (.head _))
  dsimp only at gL7
  rw [g6] at gL7
  cases gL7
  refine k h' tk m' ⟨oc',dat',ps5,cds5,_,e,TH,cT,LOG,items,c6,l,r,kd,wv,t,SA,hO,fun q hq=>?_,⟨.tail _ (.head _),il⟩,⟨a0.trans d10,a1.trans d11,a2,a3.trans d13,a4.trans d14⟩,⟨hkd,fun x x1 x2 x3=>?_⟩,⟨qB _ (qB _ (.tail _ (.tail _ (.tail _ (.head _))))),fun j hj=>?_⟩,.inr (.inr rfl)⟩
  ·rcases qF.mp hq with hq | hq
   ·exact qB _ (qY _ hq)
   ·exact qB _ (qB _ (.tail _ (.tail _ (.tail _ (.tail _ (qB _ hq))))))
  ·exact (hm6 x x1).trans ((qM x2).trans ((qM x3).trans ((qM x3).trans (hm1 x x2))))
  ·obtain ⟨a,t,ca,q1,q2⟩:=hel j hj
   exact ⟨a,t,ca,q1,qB _ (qB _ (.tail _ (.tail _ (.tail _ (.tail _ (qY _ q2))))))⟩
end K_way_stream
theorem yXB {A s b E L fa RWS N cR vs raw wish M dn m oc dat ps cds R tz tw ty QF}:K_way_stream.zP A s b E L fa RWS N cR vs raw wish M dn m oc dat ps cds R tz tw ty QF:=eps (P:=U24 K_way_stream.zP) K_way_stream.zh (A,s,b,E,L,fa,RWS,N,cR,vs,raw,wish,M,dn,m,oc,dat,ps,cds,R,tz,tw,ty,QF)
def yCq (dn:Bool) (M:Int) (raw:Nat->Rw) (N:Nat) (wish:Int) (kd:String) (vals:List Value) (r:Nat):Prop:=
 (kd="told"/\∃ ord:List Nat,IntsAre vals (ord.map fun k:Nat=>(k:Int))/\SpT dn M raw N wish r ord)\/(kd="thorn"/\∃ j,StrsAre vals [thW j]/\SpV raw N wish r j)\/(kd="kinds"/\∃ ws,StrsAre vals ws/\SpK dn M raw N wish r ws)
def Agr (raw:Nat->Rw) (N:Nat) (e:Nat->Value) (kd:String) (wv:Value) (l:List (Addr×Obj)) (vals:List Value):Prop:=
 (kd="told"/\X3 fun R c ord=>A4 (wv=.ref R) (l=[(R,listOf (List.map e ord).toArray c)]) (IntsAre vals (ord.map fun k:Nat=>(k:Int))) (∀ k∈ord,k < N/\raw k≠.thorn)) \/
 ((kd="thorn"\/kd="kinds")/\X3 fun mm t ws=>A3 (wv=.str mm t) (StrsAre vals ws) (mm∈ws))
theorem yDJ {dn:Bool} {M:Int} {raw:Nat->Rw} {N:Nat} {wish:Int} {e:Nat->Value} {kd kd':String} {wv:Value} {l:List (Addr×Obj)} {vals:List Value} {r r':Nat} (h:yCo dn M raw N wish e kd wv l r) (k:yCq dn M raw N wish kd' vals r'):A3 (kd=kd') (r=r') (Agr raw N e kd wv l vals):=by
 rcases h with ⟨R,c,ord,rfl,rfl,rfl,ho,hF,rfl⟩ | ⟨j,t,rfl,rfl,rfl,hV⟩ | ⟨mm,t,rfl,rfl,rfl,hw,hT⟩
 ·rcases k with ⟨rfl,ord',iv,hS⟩ | ⟨rfl,j,_,hV⟩ | ⟨rfl,ws,_,hK⟩
  ·rcases hS with ⟨h1,rfl,rfl⟩ | ⟨h1,h2,rfl,rfl⟩
   ·have e0:wish.toNat=0:=by lia
    have:=ho 0 (by decide)
    rw [e0] at this
    refine ⟨rfl,qM (by lia),.inl ⟨rfl,R,c,ord,rfl,rfl,?_,?_⟩⟩
    ·rw [this];exact iv
    ·rw [this];intro k hk;cases hk
   ·refine ⟨rfl,qN h1,.inl ⟨rfl,R,c,ord,rfl,rfl,?_,fun k hk=>?_⟩⟩
    ·rw [ho 0 (by decide)];exact iv
    ·rw [ho 0 (by decide)] at hk
     have:=ordD_mem.mp (mem_of_mem_take hk)
     exact ⟨this,(h2 k this).1⟩
  ·exact (told_not_thorn hF hV).elim
  ·exact (told_not_kinds hF hK).elim
 ·rcases k with ⟨rfl,ord',iv,hS⟩ | ⟨rfl,j',sv,hV'⟩ | ⟨rfl,ws,_,hK⟩
  ·rcases hS with ⟨h1,_,_⟩ | ⟨h1,h2,_,_⟩
   ·obtain ⟨h0,_⟩:=hV
    exact absurd h0 (by lia)
   ·exact (told_not_thorn (fun O=>h2) hV).elim
  ·have e:=yWH hV hV'
   subst e
   obtain ⟨_,z1,_⟩:=hV
   obtain ⟨_,z2,_⟩:=hV'
   exact ⟨rfl,z1.trans z2.symm,.inr ⟨.inl rfl,_,t,_,rfl,sv,.head _⟩⟩
  ·exact (thorn_not_kinds hV hK).elim
 ·rcases k with ⟨rfl,ord',iv,hS⟩ | ⟨rfl,j',sv,hV'⟩ | ⟨rfl,ws,sv,hK⟩
  ·rcases hS with ⟨h1,_,_⟩ | ⟨h1,h2,_,_⟩
   ·exact absurd hw (by lia)
   ·exact (told_not_tw h2 hT).elim
  ·exact (thorn_not_tw hV' hT).elim
  ·obtain ⟨h1,h2⟩:=yWP hT hK
   exact ⟨rfl,h1,.inr ⟨.inr rfl,mm,t,ws,rfl,sv,h2⟩⟩
def yVg (w:Nat) (raw:Nat->Rw) (N r:Nat) (vs vals:List Value) (kd:String) (b h:Heap) (L DL:Addr) (m':Str->Option Value) (dat:Nat->Option Value) (R:List (Addr×Obj)):Prop:=
 X8 fun oc' dat' ps' yQn R' e TH cT=>X2 fun l wv=>
  A7 (LS b h L m' oc' dat' ps' yQn R') (Agr raw N (if w=2 then (fun j=>vs.getD j .none) else e) kd wv l vals) (∀ q∈l++R,q∈R')
   (A4 (dat' 0=some (.ref DL)) (dat' 1=some (.ref TH)) (dat' 2=some wv) (dat' 4=dat 4))
   ((TH,listOf ((List.range N).map e).toArray cT)∈R'/\∀ j,j < N->X3 fun a t c=>e j=.ref a/\(a,listOf #[.int (j:Int) t] c)∈R') (yXy w N r TH e m' R') (dat 0=some (.ref DL))
theorem yXF {r:Nat}:(List.range r).map Int.ofNat=rangeKs 0 r:=by
 unfold rangeKs
 exact map_congr_left fun i _=>by rw [Int.zero_add];rfl
theorem small_r {r:Nat} (h:r<=100000):Builtin.Range.small 0 (r:Int) 1=true:=by
 have hrs:Builtin.Range.rangeSize 0 (r:Int) 1=(r:Int):=rangeSize_nat _ _
 unfold Builtin.Range.small Builtin.Range.rangeFitsLong
 rw [hrs];simp;exact yDt (by assumption)
namespace K_chk_six
def zP (A:Around) (s:Shared) (b:Heap) (E:VS) (L fa DL:Addr) (wy N cD:Nat) (vs vals:List Value) (raw:Nat->Rw) (wish M:Int) (dn:Bool) (m m1:Str->Option Value) (dat:Nat->Option Value) (R:List (Addr×Obj)) (te tr:Tok) (QF:Flow->Shared->Prop):Prop:=∀ (r:Nat) (kd:String) (hu:A.units<=460) (hA:A.handled=none) (X:(hd01.heap_1 w.params).In b) (T:Top p loose yQv mg mb b) (h128:N < 128) (hr:r<=N) (hR:yYd wy dn M raw N wish vs b s.heap L m m1 dat R) (hD:yCq dn M raw N wish kd vals r) (hDL:(DL,listOf vals.toArray cD)∈R) (d0:dat 0=some (.ref DL)) (e_e:m (Str.ofString "end")=some (.str (Str.ofString kd) te)) (e_r:m (Str.ofString "read")=some (.int (r:Int) tr)) (k:∀ h' tk,yVg wy raw N r vs vals kd b h' L DL m1 dat R->(∀ x,x≠Str.ofString "came"->x≠Str.ofString "key"->x≠Str.ofString "handed"->m1 x=m x)->wpAny (model prog w) A (execs (yQb.drop 7) (envW L fa)) QF E {s with heap:=h',toks:=tk}),
  wpAny (model prog w) A (execs (yQb.drop 6) (envW L fa)) QF E s
def zc:=ep (U23 zP) ⟨({},(start default).1,default,fun O O=>True,0,0,0,0,0,0,[],[],fun O=>.thorn,0,0,true,fun O=>none,fun O=>none,fun O=>none,[],0,0,fun O O=>True)⟩
def zd1:=zc.2.2.2.2.2.2.2.2
def zd2:=zd1.2.2.2.2.2.2.2.2
def A:=zc.1
theorem zh:zP A zc.2.1 zc.2.2.1 zc.2.2.2.1 zc.2.2.2.2.1 zc.2.2.2.2.2.1 zc.2.2.2.2.2.2.1 zc.2.2.2.2.2.2.2.1 zd1.1 zd1.2.1 zd1.2.2.1 zd1.2.2.2.1 zd1.2.2.2.2.1 zd1.2.2.2.2.2.1 zd1.2.2.2.2.2.2.1 zd1.2.2.2.2.2.2.2.1 zd2.1 zd2.2.1 zd2.2.2.1 zd2.2.2.2.1 zd2.2.2.2.2.1 zd2.2.2.2.2.2.1 zd2.2.2.2.2.2.2:=by
 intro r kd hu hA X T h128 hr hR hD hDL d0 e_e e_r k
 obtain ⟨oc',dat',ps',yQn,R',e,TH,cT,LOG,items,c,l,r',kd',wv,t,S,hO,hq,⟨hL,iL⟩,⟨a0,a1,a2,a3,a4⟩,⟨hk,hm⟩,hT,hH⟩:=hR
 obtain ⟨rfl,rfl,hAg⟩:=yDJ hO hD
 conv in yQb.drop 6=>whnf
 have F:=S.fr
 have N0:=S.nw
 have e_e1:=(hm (Str.ofString "end") (by decide) (by decide) (by decide)).trans e_e
 have e_r1:=(hm (Str.ofString "read") (by decide) (by decide) (by decide)).trans e_r
 walk1
 walk_at "rM"
 refine ne_str ?_
 rw [show (Str.ofString kd' != Str.ofString kd')=false by simp]
 walk_at "rM"
 refine S.get (i:=3) (by decide) a3 ?_
 walk_at "rM"
 rename_i h2 tk2 t1 u1 v1 hrg F2 N2 k2
 refine kll_range (n:=r') hA F2 N2 hrg (small_r (by lia)) (rangeSize_nat _ _) (by lia) fun D us cu h3 tk3 F3 N3 l3 iU=>?_
 have S3:=S.grow (xs:=[(D,listOf us.toArray cu)]) F3 N3 (fun q hq=>by rw [qC.mp hq];exact yQe)
 clear F3 N3 F2 N2
 have F3:=S3.fr
 have N3:=S3.nw
 walk_at "rM"
 refine ke_ne_ints (xs:=items.toList) (ys:=us) (qW (n:=c) (by rw [Array.toArray_toList];exact S3.at (.tail _ hL))) (qW (n:=cu) (S3.at (.head _))) iL iU (by show A.units+64 < cLine;simp [cLine];lia) ?_
 rw [yXF,decide_eq_true (p:=rangeKs 0 r'=rangeKs 0 r') rfl]
 walk_at "rM"
 dsimp only
 exact k _ _ ⟨oc',dat',ps',yQn,R',e,TH,cT,l,wv,S3.less fun q hq=>.tail _ hq,hAg,hq,⟨a0.trans d0,a1,a2,a4⟩,hT,hH,d0⟩ hm
end K_chk_six
section
variable {A:Around} {s:Shared} {b:Heap} {Q:VS} {E:VS}
theorem yBR {L fa DL:Addr} {wy N cD r:Nat} {vs vals:List Value} {raw:Nat->Rw} {wish M:Int} {dn:Bool} {kd:String} {m m1:Str->Option Value} {dat:Nat->Option Value} {R:List (Addr×Obj)} {te tr:Tok} {QF:Flow->Shared->Prop}
  (hu:A.units<=460) (hA:A.handled=none) (X:(hd01.heap_1 w.params).In b) (T:Top p loose yQv mg mb b)
  (h128:N < 128) (hr:r<=N) (hR:yYd wy dn M raw N wish vs b s.heap L m m1 dat R) (hD:yCq dn M raw N wish kd vals r) (hDL:(DL,listOf vals.toArray cD)∈R) (d0:dat 0=some (.ref DL))
  (e_e:m (Str.ofString "end")=some (.str (Str.ofString kd) te)) (e_r:m (Str.ofString "read")=some (.int (r:Int) tr))
  (k:∀ h' tk,yVg wy raw N r vs vals kd b h' L DL m1 dat R->(∀ x,x≠Str.ofString "came"->x≠Str.ofString "key"->x≠Str.ofString "handed"->m1 x=m x)->wpAny (model prog w) A (execs (yQb.drop 7) (envW L fa)) QF E {s with heap:=h',toks:=tk}):
  wpAny (model prog w) A (execs (yQb.drop 6) (envW L fa)) QF E s:=
 eps (P:=U23 K_chk_six.zP) K_chk_six.zh (A,s,b,E,L,fa,DL,wy,N,cD,vs,vals,raw,wish,M,dn,m,m1,dat,R,te,tr,QF) r kd hu hA X T h128 hr hR hD hDL d0 e_e e_r k
end
theorem yBY {mm:Str} {ws:List Str} (h:mm∈ws):ws.any (· == mm)=true:=List.any_eq_true.mpr ⟨mm,h,vG.mpr rfl⟩
namespace K_chk7_words
def zP (A:Around) (s:Shared) (b:Heap) (E:VS) (L fa DL:Addr) (wy N cD r:Nat) (vs vals:List Value) (raw:Nat->Rw) (m1:Str->Option Value) (dat:Nat->Option Value) (R:List (Addr×Obj)) (te:Tok) (QF:Flow->Shared->Prop):Prop:=∀ (kd:String) (hu:A.units<=460) (hA:A.handled=none) (X:(hd01.heap_1 w.params).In b) (T:Top p loose yQv mg mb b) (hC:yVg wy raw N r vs vals kd b s.heap L DL m1 dat R) (hkd:kd="thorn"\/kd="kinds") (hDL:(DL,listOf vals.toArray cD)∈R) (e_e:m1 (Str.ofString "end")=some (.str (Str.ofString kd) te)) (k:∀ h' tk,yVg wy raw N r vs vals kd b h' L DL m1 dat R->wpAny (model prog w) A (execs (yQb.drop 8) (envW L fa)) QF E {s with heap:=h',toks:=tk}),
  wpAny (model prog w) A (execs (yQb.drop 7) (envW L fa)) QF E s
def zc:=ep (U19 zP) ⟨({},(start default).1,default,fun O O=>True,0,0,0,0,0,0,0,[],[],fun O=>.thorn,fun O=>none,fun O=>none,[],0,fun O O=>True)⟩
def zd1:=zc.2.2.2.2.2.2.2.2
def zd2:=zd1.2.2.2.2.2.2.2.2
def A:=zc.1
def s:=zc.2.1
def cD:=zd1.2.1
def vals:=zd1.2.2.2.2.1
theorem zh:zP A s zc.2.2.1 zc.2.2.2.1 zc.2.2.2.2.1 zc.2.2.2.2.2.1 zc.2.2.2.2.2.2.1 zc.2.2.2.2.2.2.2.1 zd1.1 cD zd1.2.2.1 zd1.2.2.2.1 vals zd1.2.2.2.2.2.1 zd1.2.2.2.2.2.2.1 zd1.2.2.2.2.2.2.2.1 zd2.1 zd2.2.1 zd2.2.2:=by
 intro kd hu hA X T hC hkd hDL e_e k
 obtain ⟨oc',dat',ps',yQn,R',e,TH,cT,l,wv,S,hAg,hq,⟨a0,a1,a2,a4⟩,hT,hH,d0⟩:=hC
 obtain ⟨mm,t,ws,rfl,sv,hmm⟩:X3 fun mm t ws=>A3 (wv=.str mm t) (StrsAre vals ws) (mm∈ws):=by
  rcases hAg with ⟨z,_⟩ | ⟨_,z⟩
  ·rw [z] at hkd;exact absurd hkd (by decide)
  ·exact z
 conv in yQb.drop 7=>whnf
 have F:=S.fr
 have N0:=S.nw
 have e_n:(Str.ofString kd != Str.ofString "told")=true:=by rcases hkd with rfl | rfl<;>decide +kernel
 walk1
 walk_at "rI"
 refine ne_str ?_
 rw [e_n]
 walk_at "rI"
 refine LS.get (i:=2) (by exact S) (by decide) a2 ?_
 walk_at "rI"
 refine LS.get (i:=0) (by exact S) (by decide) a0 ?_
 walk_at "rI"
 refine notin_list_strs (qW (n:=cD) (S.at (hq _ (qB _ hDL)))) sv ?_
 rw [yBY hmm]
 walk_at "rI"
 dsimp only
 exact k s.heap _ ⟨oc',dat',ps',yQn,R',e,TH,cT,l,_,S,hAg,hq,⟨a0,a1,a2,a4⟩,hT,hH,d0⟩
end K_chk7_words
section
variable {A:Around} {s:Shared} {b:Heap} {Q:VS} {E:VS}
theorem yXW {L fa DL:Addr} {wy N cD r:Nat} {vs vals:List Value} {raw:Nat->Rw} {kd:String} {m1:Str->Option Value} {dat:Nat->Option Value} {R:List (Addr×Obj)} {te:Tok} {QF:Flow->Shared->Prop}
  (hu:A.units<=460) (hA:A.handled=none) (X:(hd01.heap_1 w.params).In b) (T:Top p loose yQv mg mb b)
  (hC:yVg wy raw N r vs vals kd b s.heap L DL m1 dat R) (hkd:kd="thorn"\/kd="kinds") (hDL:(DL,listOf vals.toArray cD)∈R)
  (e_e:m1 (Str.ofString "end")=some (.str (Str.ofString kd) te))
  (k:∀ h' tk,yVg wy raw N r vs vals kd b h' L DL m1 dat R->wpAny (model prog w) A (execs (yQb.drop 8) (envW L fa)) QF E {s with heap:=h',toks:=tk}):
  wpAny (model prog w) A (execs (yQb.drop 7) (envW L fa)) QF E s:=
 eps (P:=U19 K_chk7_words.zP) K_chk7_words.zh (A,s,b,E,L,fa,DL,wy,N,cD,r,vs,vals,raw,m1,dat,R,te,QF) kd hu hA X T hC hkd hDL e_e k
end
noncomputable def pd:Rw->PyData
 | .num z=>.int z
 | .boo b=>.bool b
 | .txt k=>.str (txS k)
 | .thorn=>.none
noncomputable def rowD (raw:Nat->Rw) (k:Nat):PyData:=.tuple [.str (Str.ofString (raw k).kd),pd (raw k)]
theorem yCx:∀ k,k < 30->PyData.strOk (txS k)=true:=by decide +kernel
theorem yBr {h:Heap} {v:Value} {r:Rw} (hv:IsV v r):Reads h v (pd r) []/\(pd r).canLay0=true/\(pd r).depth=0:=by
 cases r
 ·obtain ⟨t,rfl⟩:=hv;exact ⟨.int _ _,rfl,rfl⟩
 ·cases hv;exact ⟨.bool _,rfl,rfl⟩
 ·obtain ⟨hk,t,rfl⟩:=hv;exact ⟨.str _ _,by simp only [pd,PyData.canLay0];exact yCx _ hk,rfl⟩
 ·exact hv.elim
theorem yDB (r:Rw):PyData.strOk (Str.ofString r.kd)=true:=by
 cases r
 ·show PyData.strOk (Str.ofString "int")=true;decide +kernel
 ·show PyData.strOk (Str.ofString "bool")=true;decide +kernel
 ·show PyData.strOk (Str.ofString "str")=true;decide +kernel
 ·show PyData.strOk (Str.ofString "int")=true;decide +kernel
theorem yVr {h:Heap} {raw:Nat->Rw}:∀ {l:List Value} {ord:List Nat},l.length=ord.length->(∀ i v,l[i]?=some v->X4 fun T t c u=>A3 (v=.ref T) (h.get? T=some { cls:=.type "tuple",data:=.seq #[.str (Str.ofString (raw (ord.getD i 0)).kd) t,u] c }) (IsV u (raw (ord.getD i 0))))->∃ as,ReadsAll h l (ord.map (rowD raw)) as/\PyData.canLayAll0 (ord.map (rowD raw))=true/\PyData.depthAll (ord.map (rowD raw))<=1
 | [],[],_,_=>⟨_,.nil,rfl,vZ _⟩
 | v::l,o::ord,hl,k=>by
  obtain ⟨T,t,c,u,rfl,g,hu⟩:=k 0 v rfl
  obtain ⟨as,r1,r2,r3⟩:=yVr (l:=l) (ord:=ord) (Nat.succ.inj hl) fun i v hv=>k (i+1) v hv
  obtain ⟨q1,q2,q3⟩:=yBr (h:=h) hu
  refine ⟨_,.cons (reads_tuple_at g rfl rfl (.cons (.str _ _) (.cons q1 .nil))) r1,?_,?_⟩
  ·have q2:(pd (raw o)).canLay0=true:=q2
   simp only [map_cons,rowD,PyData.canLayAll0,PyData.canLay0,yDB,q2,Bool.and_true,Bool.true_and]
   exact r2
  ·show max (max 0 (max (pd (raw o)).depth 0)+1) (PyData.depthAll (ord.map (rowD raw)))<=1
   rw [show (pd (raw o)).depth=0 from q3]
   exact Nat.max_le.mpr ⟨vC _,r3⟩
theorem yYz {h:Heap} {raw:Nat->Rw} {ord:List Nat} {rv:Nat->Value} {rs:List (Value×List (Addr×Obj))} (hr:Row (fun O=>true) ord.length (fun j y nw=>X2 fun T t=>y=.ref T/\nw=[(T,{ cls:=.type "tuple",data:=.seq #[.str (Str.ofString (raw (ord.getD j 0)).kd) t,rv j] })]) rs) (hg:∀ q∈rs.flatMap (·.2),h.get? q.1=some q.2) (hv:∀ j,j < ord.length->IsV (rv j) (raw (ord.getD j 0))):∃ as,ReadsAll h (rs.map (·.1)) (ord.map (rowD raw)) as/\PyData.canLayAll0 (ord.map (rowD raw))=true/\PyData.depthAll (ord.map (rowD raw))<=1:=by
 obtain ⟨r1,r2⟩:=hr
 rw [yQt] at r1 r2
 rw [length_range] at r1
 refine yVr (by rw [length_map,r1]) fun i v hi=>?_
 rw [List.getElem?_map] at hi
 obtain ⟨r,hr,rfl⟩:=Option.map_eq_some_iff.mp hi
 have hil:i < rs.length:=(List.getElem?_eq_some_iff.mp hr).1
 have hio:i < ord.length:=by rw [<- r1];exact hil
 obtain ⟨T,t,e1,e2⟩:=r2 i r hr
 rw [show (List.range ord.length).getD i 0=i by simp [hio]] at e2
 refine ⟨T,t,0,rv i,e1,hg (T,_) (mem_flatMap.mpr ⟨r,List.mem_of_getElem? hr,by rw [e2];exact .head _⟩),hv i hio⟩
theorem yXl {raw:Nat->Rw} {ord:List Nat} {rv:Nat->Value} {rs:List (Value×List (Addr×Obj))} (hr:Row (fun O=>true) ord.length (fun j y nw=>X2 fun T t=>y=.ref T/\nw=[(T,{ cls:=.type "tuple",data:=.seq #[.str (Str.ofString (raw (ord.getD j 0)).kd) t,rv j] })]) rs):∀ q∈rs.flatMap (·.2),Cln q:=fun q hq=>by
 obtain ⟨r,h1,h2⟩:=mem_flatMap.mp hq
 obtain ⟨i,hi,rfl⟩:=getElem_of_mem h1
 obtain ⟨T,t,_,e2⟩:=hr.2 i _ (qT hi)
 rw [e2] at h2
 rw [qC.mp h2];exact yZr
namespace K_chk7_told
def zP (A:Around) (s:Shared) (b:Heap) (E:VS) (L fa DL RWS:Addr) (wy N cD cR r:Nat) (vs vals:List Value) (raw:Nat->Rw) (m1:Str->Option Value) (dat:Nat->Option Value) (R:List (Addr×Obj)) (te ty:Tok) (QF:Flow->Shared->Prop):Prop:=∀ (hd:A.depth<=495) (hu:A.units<=460) (hA:A.handled=none) (X:(hd01.heap_1 w.params).In b) (T:Top p loose yQv mg mb b) (hw:wy < 3) (h128:N < 128) (hC:yVg wy raw N r vs vals "told" b s.heap L DL m1 dat R) (hDL:(DL,listOf vals.toArray cD)∈R) (hRWS:(RWS,listOf vs.toArray cR)∈R) (d4:dat 4=some (.ref RWS)) (hvs:vs.length=N) (hv:∀ j,j < N->IsR (vs.getD j .none) (raw j)) (e_e:m1 (Str.ofString "end")=some (.str (Str.ofString "told") te)) (e_y:m1 (Str.ofString "way")=some (.str (Str.ofString (wNm wy)) ty)) (hlen:vals.length<=N) (k:∀ h' tk,yVg wy raw N r vs vals "told" b h' L DL m1 dat R->wpAny (model prog w) A (execs (yQb.drop 8) (envW L fa)) QF E {s with heap:=h',toks:=tk}),
  wpAny (model prog w) A (execs (yQb.drop 7) (envW L fa)) QF E s
def zc:=ep (U22 zP) ⟨({},(start default).1,default,fun O O=>True,0,0,0,0,0,0,0,0,0,[],[],fun O=>.thorn,fun O=>none,fun O=>none,[],0,0,fun O O=>True)⟩
def zd1:=zc.2.2.2.2.2.2.2.2
def zd2:=zd1.2.2.2.2.2.2.2.2
def A:=zc.1
def b:=zc.2.2.1
def L:=zc.2.2.2.2.1
def DL:=zc.2.2.2.2.2.2.1
def RWS:=zc.2.2.2.2.2.2.2.1
def wy:=zd1.1
def N:=zd1.2.1
def cD:=zd1.2.2.1
def cR:=zd1.2.2.2.1
def vs:=zd1.2.2.2.2.2.1
def vals:=zd1.2.2.2.2.2.2.1
def raw:=zd1.2.2.2.2.2.2.2.1
def m1:=zd2.1
def R:=zd2.2.2.1
def yVN:Σ' Rq:(Nat->Obj)->(Nat->Option Value)->Array Value->(List (Addr×Obj))->(List (Addr×Obj))->(Nat->Value)->Addr->Nat->(Nat->Value)->Addr->Nat->List Nat->Prop,U12 Rq (ep (U12 Rq) ⟨(fun O=>default,fun O=>none,#[],[],[],fun O=>.none,0,0,fun O=>.none,0,0,[])⟩)->zP A zc.2.1 b zc.2.2.2.1 L zc.2.2.2.2.2.1 DL RWS wy N cD cR zd1.2.2.2.2.1 vs vals raw m1 zd2.2.1 R zd2.2.2.2.1 zd2.2.2.2.2.1 zd2.2.2.2.2.2:=⟨_,fun hq1=>by
 intro hd hu hA X T hw h128 hC hDL hRWS d4 hvs hv e_e e_y hlen k
 obtain ⟨oc',dat',ps',yQn,R',e,TH,cT,l,wv,S,hAg,hq,⟨a0,a1,a2,a4⟩,hT,hH,d0⟩:=hC
 obtain ⟨e',he'⟩:∃ e',e'=if wy=2 then (fun j=>vs.getD j .none) else e:=⟨_,rfl⟩
 obtain ⟨R0,c0,ord,rfl,rfl,iv,hord⟩:X3 fun R c ord=>A4 (wv=.ref R) (l=[(R,listOf (List.map e' ord).toArray c)]) (IntsAre vals (ord.map fun k:Nat=>(k:Int))) (∀ k∈ord,k < N/\raw k≠.thorn):=by
  rcases hAg with ⟨_,z⟩ | ⟨z,_⟩
  ·rw [<- he'] at z;exact z
  ·exact absurd z (by decide)
 have hR0:=S.at (hq _ (.head _))
 have hvl:vals.length=ord.length:=by rw [iv.length,length_map]
 revert hd hu hA X T hw h128 hDL hRWS d4 hvs hv e_e e_y hlen k S hT hH d0 a0 a1 a4 he' iv hord a2 hq hAg hR0 hvl
 revert oc' dat' ps' yQn R' e TH cT e' R0 c0 ord
 exact eP12 hq1⟩
namespace c1
def z:=ep (U12 yVN.1) ⟨(fun O=>default,fun O=>none,#[],[],[],fun O=>.none,0,0,fun O=>.none,0,0,[])⟩
def oc':=z.1
def dat':=z.2.1
def ps':=z.2.2.1
def yQn:=z.2.2.2.1
def R':=z.2.2.2.2.1
def e:=z.2.2.2.2.2.1
def TH:=z.2.2.2.2.2.2.1
def cT:=z.2.2.2.2.2.2.2.1
def y1:=z.2.2.2.2.2.2.2.2
def e':=y1.1
def R0:=y1.2.1
def c0:=y1.2.2.1
def ord:=y1.2.2.2
theorem tq:yVN.1 oc' dat' ps' yQn R' e TH cT e' R0 c0 ord:=by
 intro hd hu hA X T hw h128 hDL hRWS d4 hvs hv e_e e_y hlen k S hT hH d0 a0 a1 a4 he' iv hord a2 hq hAg hR0 hvl
 conv in yQb.drop 7=>whnf
 have F:=S.fr
 have N0:=S.nw
 walk1
 walk_at "rI"
 refine ne_str ?_
 rw [show (Str.ofString "told" != Str.ofString "told")=false from by decide +kernel]
 walk_at "rI"
 refine LS.get (i:=2) (by exact S) (by decide) a2 ?_
 walk_at "rI"
 refine kia_one (K:=hd01.heap_1 w.params) (b:=true) kitx_list (X.keeps F.keep) ⟨_,hR0,rfl⟩ (by kit_is) (by intro q;cases q) fun tk2=>?_
 walk_at "rI"
 refine LS.get (i:=2) (by exact S) (by decide) a2 ?_
 walk_at "rI"
 refine Calls.call_len_list (qW (n:=c0) hR0) (by simp;lia) ?_
 rw [show (List.map e' ord).toArray.size=ord.length by simp]
 walk_at "rI"
 refine LS.get (i:=0) (by exact S) (by decide) a0 ?_
 walk_at "rI"
 refine Calls.call_len_list (qW (n:=cD) (S.at (hq _ (qB _ hDL)))) (by simp;lia) ?_
 rw [show vals.toArray.size=ord.length by simp [hvl]]
 refine ne_int ?_
 rw [show ((ord.length:Int) != (ord.length:Int))=false by simp]
 walk_at "rI"
 ·rename_i tk3 tk4 hwy
  have hw2:wy=2:=by
   rcases (show wy=0\/wy=1\/wy=2 from np36 hw) with z | z | z
   ·rw [z] at hwy;exact absurd hwy (by decide +kernel)
   ·rw [z] at hwy;exact absurd hwy (by decide +kernel)
   ·exact z
  have he2:e'=fun j=>vs.getD j .none:=he'.trans (qN hw2)
  have gv:∀ i:Nat,i < N->vs.toArray[((i:Int)).toNat]?=some (vs.getD i .none):=fun i hi=>by simp [qR,show i < vs.length from by rw [hvs];exact hi]
  have ogv:∀ j,j < ord.length->∃ t,vals.getD j .none=.int ((ord.getD j 0:Nat):Int) t:=fun j hj=>by
   obtain ⟨t,ht⟩:=yJo (i:=j) (z:=((ord.getD j 0:Nat):Int)) iv (by rw [List.getElem?_map,qT hj,qR,qT hj];rfl)
   exact ⟨t,by rw [qR,ht];rfl⟩
  rw [he2] at hR0
  have hRW:=S.at (hq _ (qB _ hRWS))
  have hDg:=S.at (hq _ (qB _ hDL))
  have hov:∀ j,j < ord.length->IsV (vs.getD (ord.getD j 0) .none) (raw (ord.getD j 0))/\ord.getD j 0 < N:=fun j hj=>by
   have hm:ord.getD j 0∈ord:=by rw [qR,qT hj];exact wK hj
   obtain ⟨q1,q2⟩:=hord _ hm
   exact ⟨(hv _ q1).elim (fun z=>absurd z.2 q2) id,q1⟩
  rw [yYP (l:=ord) rfl] at hR0
  have hol:ord.length<=N:=by rw [<- hvl];exact hlen
  refine src_list (L:=L) (m:=m1) (B:=b) (n:=ord.length) (V:=fun j v=>v=vs.getD (ord.getD j 0) .none) (news:=C5 L oc'++(129,tabObj ps')::(yQn++R')) (cl:=[]) (Nm:=NmV "raw" _) (fun O=>true) (fun j y nw=>X2 fun T t=>y=.ref T/\nw=[(T,{ cls:=.type "tuple",data:=.seq #[.str (Str.ofString (raw (ord.getD j 0)).kd) t,vs.getD (ord.getD j 0) .none] })]) (by kernel_rfl) (by decide +kernel) (by decide +kernel) (by intro _;rfl) (by lia) (by rfl) ?_ (stores_name (by rfl) (by rfl)) yQo ?_ ?_
  ·show wpAny _ _ _ _ _ _
   walk_at "rI"
   refine LS.get (i:=2) (by exact S) (by decide) a2 ?_
   exact made_list (e:=fun j=>vs.getD (ord.getD j 0) .none) hA (.inl ⟨_,_,rfl⟩) F N0 hR0
  ·intro j h ma3 tk E' C hj hp hn hnm hG
   obtain ⟨v,rfl,hv1⟩:=hnm
   have hB:=hG.1
   have XB:=X.keeps hB
   obtain ⟨o1,o2⟩:=hov j hj
   walk_at "rI"
   refine yJn (b:=h) (qZ hd (by decide)) (qZ hu (by decide)) hA (fun _ _ q=>q) (by exact vC _) (X.keeps hB) (T.keeps hB) o1 ?_
   intro h' tk' t' st'
   have hv2:=hv1
   have hn':=ns_at hn fun o q=>st' _ _ q
   walk_at "rI"
   refine wpAny_newTuple ⟨_,_,[(h'.objs.size,_)],rfl,fun _ _ q=>qS _ (st' _ _ q),⟨_,t',rfl,rfl⟩,fun q hq=>?_⟩
   rw [qC.mp hq]
   exact ⟨qX _ rfl,none_sub st' (qV (vC _))⟩
  intro D1 h8 tk8 rs1 hr1 hm1
  obtain ⟨F8,⟨c8,N8⟩,_⟩:=hm1
  have S8:=S.grow (xs:=(D1,listOf (rs1.map (·.1)).toArray c8)::rs1.flatMap (·.2)) F8 (fun q hq=>N8 q (by simpa using hq)) (fun q hq=>by
   rcases qG.mp hq with rfl | hq
   ·exact yQe
   ·exact yXl hr1 q hq)
  clear F8 N8
  have F8:=S8.fr
  have N8:=S8.nw
  have hDg8:=S8.at (q:=(DL,listOf vals.toArray cD)) (qB _ (hq _ (qB _ hDL)))
  rw [yJN (vs:=vals),hvl] at hDg8
  refine src_list (L:=L) (m:=m1) (B:=b) (n:=ord.length) (V:=fun j v=>v=vals.getD j .none) (news:=C5 L oc'++(129,tabObj ps')::(yQn++(((D1,listOf (rs1.map (·.1)).toArray c8)::rs1.flatMap (·.2))++R'))) (cl:=[(Str.ofString "raws",cad L 4)]) (Nm:=NmV "k" _) (fun O=>true) (fun j y nw=>X2 fun T t=>y=.ref T/\nw=[(T,{ cls:=.type "tuple",data:=.seq #[.str (Str.ofString (raw (ord.getD j 0)).kd) t,vs.getD (ord.getD j 0) .none] })]) (by kernel_rfl) (by decide +kernel) (by decide +kernel) (by intro _;rfl) (by lia) (by rfl) ?_ (stores_name (by rfl) (by rfl)) yQo ?_ ?_
  ·show wpAny _ _ _ _ _ _
   walk_at "rI"
   refine LS.get (i:=0) (by exact S8) (by decide) a0 ?_
   exact made_list (e:=fun j=>vals.getD j .none) hA (.inl ⟨_,_,rfl⟩) F8 N8 hDg8
  ·intro j h ma3 tk E' C hj hp hn hnm hG
   obtain ⟨v,rfl,hv1⟩:=hnm
   have hB:=hG.1
   have XB:=X.keeps hB
   obtain ⟨o1,o2⟩:=hov j hj
   obtain ⟨tv,o3⟩:=ogv j hj
   rw [o3] at hv1
   have g4:=hG.2 _ (qY _ (c5_mem (i:=4) (by decide)))
   have gRW:=hG.2 (RWS,listOf vs.toArray cR) (qB _ (.tail _ (qB _ (qB _ (hq _ (qB _ hRWS))))))
   have d4':(oc' 4).data=.cell (some (.ref RWS)):=by rw [<- d4,<- a4];exact S.cl 4 (by decide)
   have gvs:=gv _ o2
   walk_at "rI"
   refine yQD (c:=cad L 4) (by rfl) (by kernel_rfl) (by kernel_rfl) g4 d4' ?_
   walk_at "rI"
   refine yQf gRW (by lia) (by lia) gvs ?_
   walk_at "rI"
   refine yJn (b:=h) (qZ hd (by decide)) (qZ hu (by decide)) hA (fun _ _ q=>q) (by exact vC _) (X.keeps hB) (T.keeps hB) o1 ?_
   intro h' tk' t' st'
   have hn':=ns_at hn fun o q=>st' _ _ q
   have XB':=XB.keeps st'
   walk_at "rI"
   refine yQD (c:=cad L 4) (by rfl) (by kernel_rfl) (by kernel_rfl) (st' _ _ g4) d4' ?_
   walk_at "rI"
   refine yQf (st' _ _ gRW) (by lia) (by lia) gvs ?_
   walk_at "rI"
   refine wpAny_newTuple ⟨_,_,[(h'.objs.size,_)],rfl,fun _ _ q=>qS _ (st' _ _ q),⟨_,t',rfl,rfl⟩,fun q hq=>?_⟩
   rw [qC.mp hq]
   exact ⟨qX _ rfl,none_sub st' (qV (vC _))⟩
  intro D2 h9 tk9 rs2 hr2 hm2
  obtain ⟨F9,⟨c9,N9⟩,_⟩:=hm2
  have S9:=S8.grow (xs:=(D2,listOf (rs2.map (·.1)).toArray c9)::rs2.flatMap (·.2)) F9 (fun q hq=>N9 q (by simpa using hq)) (fun q hq=>by
   rcases qG.mp hq with rfl | hq
   ·exact yQe
   ·exact yXl hr2 q hq)
  clear F9 N9 F8 N8
  have F9:=S9.fr
  have N9:=S9.nw
  obtain ⟨as1,q1,q2,q3⟩:=yYz (h:=h9) hr1 (fun q hq=>S9.at (qB _ (.tail _ (qY _ hq)))) fun j hj=>(hov j hj).1
  obtain ⟨as2,q4,_⟩:=yYz (h:=h9) hr2 (fun q hq=>S9.at (.tail _ (qY _ hq))) fun j hj=>(hov j hj).1
  have sh:SeqAt.shaped (.list (ord.map (rowD raw)))=true:=by
   unfold SeqAt.shaped
   rw [show (PyData.list (ord.map (rowD raw))).canLay0=true by simp only [PyData.canLay0];exact q2,Bool.true_and,decide_eq_true_eq]
   show PyData.depthAll (ord.map (rowD raw))+1<=64
   lia
  refine ne_dataH (reads_list_at (S9.at (q:=(D1,_)) (qB _ (.head _))) rfl rfl q1) (reads_list_at (S9.at (q:=(D2,_)) (.head _)) rfl rfl q4) sh sh (by show A.units+64 < cLine;simp [cLine];lia) ?_
  rw [SeqAt.eqv_refl _ (by simp only [PyData.canLay0];exact q2)]
  walk_at "rI"
  dsimp only
  exact k _ _ ⟨oc',dat',ps',yQn,R',e,TH,cT,_,_,S9.less fun q hq=>qB _ (qB _ hq),hAg,hq,⟨a0,a1,a2,a4⟩,hT,hH,d0⟩
 ·rename_i tk3 tk4 hwy
  have hw2:wy≠2:=fun z=>by rw [z] at hwy;exact absurd hwy (by decide +kernel)
  have he2:e'=e:=he'.trans (qM hw2)
  rw [he2] at hR0
  have hTH:=S.at hT.1
  have hDg:=S.at (hq _ (qB _ hDL))
  have og:∀ j,j < ord.length->ord.getD j 0 < N/\vals[j]?=some (vals.getD j .none)/\∃ t,vals.getD j .none=.int ((ord.getD j 0:Nat):Int) t:=fun j hj=>by
   have hj':j < vals.length:=by rw [hvl];exact hj
   have hm:ord.getD j 0∈ord:=by rw [qR,qT hj];exact wK hj
   obtain ⟨t,ht⟩:=yJo (i:=j) (z:=((ord.getD j 0:Nat):Int)) iv (by rw [List.getElem?_map,qT hj,qR,qT hj];rfl)
   refine ⟨(hord _ hm).1,?_,t,?_⟩
   ·rw [qR,qT hj'];rfl
   ·rw [qR,ht];rfl
  refine src_list (L:=L) (m:=m1) (B:=b) (n:=ord.length) (V:=fun j v=>∃ t,v=.int (0+(j:Int)) t) (news:=C5 L oc'++(129,tabObj ps')::(yQn++R')) (cl:=[(Str.ofString "what",cad L 2),(Str.ofString "things",cad L 1),(Str.ofString "due",cad L 0)]) (Nm:=NmV "j" _) (fun O=>false) (fun j y nw=>nw=[]) (by kernel_rfl) (by decide +kernel) (by decide +kernel) (by intro _;rfl) (by lia) (by rfl) ?_ (stores_name (by rfl) (by rfl)) ?_ (fun j h ma3 tk E' C hj hp=>by cases hp) ?_
  ·show wpAny _ _ _ _ _ _
   walk_at "rI"
   refine LS.get (i:=0) (by exact S) (by decide) a0 ?_
   walk_at "rI"
   refine Calls.call_len_list (qW (n:=cD) hDg) (by simp;lia) ?_
   rw [show vals.toArray.size=ord.length by simp [hvl]]
   walk_at "rI"
   rename_i h6 tk6 t1 u1 v1 hr F6 N6 k6
   exact yQX hA F6 N6 hr (by lia)
  ·intro j h ma3 tk E' C hj hn hnm hG
   obtain ⟨v,⟨t,rfl⟩,hv1⟩:=hnm
   rw [Int.zero_add] at hv1
   have hB:=hG.1
   have gC:∀ {i},i < 5->h.get? (cad L i)=some (oc' i):=fun hi=>hG.2 _ (qY _ (c5_mem hi))
   have gR:∀ {q:Addr×Obj},q∈R'->h.get? q.1=some q.2:=fun hq=>hG.2 _ (qB _ (.tail _ (qB _ hq)))
   obtain ⟨o1,o2,tv,o3⟩:=og j hj
   refine wpAny_tests_one ?_
   walk_at "rI"
   refine yQD (c:=cad L 2) (by rfl) (by kernel_rfl) (by kernel_rfl) (gC (i:=2) (by decide)) (v:=.ref R0) (by rw [<- a2];exact S.cl 2 (by decide)) ?_
   walk_at "rI"
   refine yQf (v:=e (ord.getD j 0)) (gR (hq _ (.head _))) (by lia) (by lia) (by rw [he2];simp only [toNat_natCast,List.getElem?_toArray,List.getElem?_map,qT hj,qR,Option.map_some,Option.getD_some]) ?_
   walk_at "rI"
   refine yQD (c:=cad L 1) (by rfl) (by kernel_rfl) (by kernel_rfl) (gC (i:=1) (by decide)) (v:=.ref TH) (by rw [<- a1];exact S.cl 1 (by decide)) ?_
   walk_at "rI"
   refine yQD (c:=cad L 0) (by rfl) (by kernel_rfl) (by kernel_rfl) (gC (i:=0) (by decide)) (v:=.ref DL) (by rw [<- a0];exact S.cl 0 (by decide)) ?_
   walk_at "rI"
   refine yQf (v:=.int ((ord.getD j 0:Nat):Int) tv) (gR (hq _ (qB _ hDL))) (by lia) (by lia) (by rw [<- o3];simpa using o2) ?_
   refine yQf (v:=e (ord.getD j 0)) (gR hT.1) (by lia) (by lia) (by simp only [toNat_natCast,List.getElem?_toArray,List.getElem?_map,List.getElem?_range o1,Option.map_some]) ?_
   obtain ⟨a,_,_,ea,_⟩:=hT.2 _ o1
   rw [ea]
   refine wpAny_isNot_ref_self ?_
   walk_at "rI"
   all_goals first | rfl | exact fun _ _ e=>e
  ·intro D h8 tk8 rs hr hm
   obtain ⟨F8,⟨c8,N8⟩,off8,fr8⟩:=hm
   have hrs:rs=[]:=List.length_eq_zero_iff.mp (by rw [hr.1,List.filter_eq_nil_iff.mpr (by simp)];rfl)
   subst hrs
   have S8:=S.grow (xs:=[(D,listOf #[] c8)]) F8 (fun q hq=>N8 q hq) (fun q hq=>by rw [qC.mp hq];exact yQe)
   clear F8 N8
   have F8:=S8.fr
   have N8:=S8.nw
   walk_at "rI"
   rename_i D9 h9 F9 N9 l9
   refine ke_ne_ints (xs:=[]) (ys:=[]) (ns:=[]) (ms:=[]) (qW (n:=c8) (N9 _ (.tail _ (qB _ (.tail _ (qB _ (.head _)))))).1) (qW (n:=0) (N9 _ (.head _)).1) .nil .nil (by show A.units+64 < cLine;simp [cLine];lia) ?_
   have S9:=S8.grow (xs:=[(D9,listOf #[] 0)]) F9 N9 (fun q hq=>by rw [qC.mp hq];exact yQe)
   walk_at "rI"
   dsimp only
   exact k _ _ ⟨oc',dat',ps',yQn,R',e,TH,cT,_,_,S9.less fun q hq=>.tail _ (.tail _ hq),hAg,hq,⟨a0,a1,a2,a4⟩,hT,hH,d0⟩
end c1
theorem zh:zP A zc.2.1 b zc.2.2.2.1 L zc.2.2.2.2.2.1 DL RWS wy N cD cR zd1.2.2.2.2.1 vs vals raw m1 zd2.2.1 R zd2.2.2.2.1 zd2.2.2.2.2.1 zd2.2.2.2.2.2:=yVN.2 c1.tq
end K_chk7_told
theorem yZt {A s b E L fa DL RWS wy N cD cR r vs vals raw m1 dat R te ty QF}:K_chk7_told.zP A s b E L fa DL RWS wy N cD cR r vs vals raw m1 dat R te ty QF:=eps (P:=U22 K_chk7_told.zP) K_chk7_told.zh (A,s,b,E,L,fa,DL,RWS,wy,N,cD,cR,r,vs,vals,raw,m1,dat,R,te,ty,QF)
noncomputable def yXt:PySem.Expr:=.ListComp (.Subscript (.Name (Str.ofString "thing") ⟨248,36,248,41⟩) (.Constant (.int 0) 0 ⟨248,42,248,43⟩) ⟨248,36,248,44⟩) [⟨.Name (Str.ofString "thing") ⟨248,49,248,54⟩,.Name (Str.ofString "handed") ⟨248,58,248,64⟩,[],0⟩] { kind:=.function,names:=[(Str.ofString ".0",.local),(Str.ofString "thing",.local)],isGenerator:=false,isCoroutine:=false } ⟨248,35,248,65⟩
theorem small_rn {r N:Nat} (h:r<=N) (h2:N<=100000):Builtin.Range.small (r:Int) (N:Int) 1=true:=by
 unfold Builtin.Range.small Builtin.Range.rangeFitsLong
 rw [rangeSize_nat];simp;exact np7 h h2
section
variable {A:Around} {s:Shared} {E:VS}
def froSt (I R:Addr) (e:Nat->Value) (N r c0:Nat) (j:Nat) (h:Heap):Prop:=(h.get? I=some (liObj R (r+j))\/(r=N/\h.get? I=some (liEnd N)))/\h.get? R=some (listOf ((List.range N).map e).toArray c0)
theorem yXR {x:Str} {px:Pos} {I R:Addr} {e:Nat->Value} {N r c0:Nat} (hh:A.handled=none) (hr:r<=N) (hne:R≠I):yJt prog w A (.Name x px) I [R] (N - r) (fun j v=>v=e (r+j)) (froSt I R e N r c0) where
 turn:=fun s j Q E hj g k=>by
  have hj':r+j < N:=(jl3 [_,_,_,_] 0xf0a13f3ab2fa210 hj (nc (jg2 [_,_] 0xf01f1ab0 hr)))
  have g1:=g.1.resolve_right fun z=>by exact (nq2 [_,_,_] 0xf02f2aba10 hj' (qD ((z).1).symm :))
  exact pyNext_li_item g1 g.2 (x:=e (r+j)) (by simp [hj']) fun ha2 k1 s2=>k _ _ _ rfl ⟨.inl k1,s2.extBut _ _ hne g.2⟩ s2
 done:=fun s Q E g k=>by
  rcases g.1 with g1 | ⟨_,g1⟩
  ·exact pyNext_li_end hh g1 g.2 (by simp;exact (jg2 [_,_,_] 0xfa012f2aba10 na)) fun h' a b=>k _ _ b
  ·exact yVh hh g1 fun h' a=>k _ s.toks fun c o _ q=>a _ _ q
 iter:=fun s j Q E g k=>g.1.elim (fun z=>yQG z rfl k) fun z=>yQG z.2 rfl k
 own:=fun s j v Q E _ _ k=>qI k
 alive:=fun j h g a ha=>by
  simp only [qG,wG,or_false] at ha
  rcases ha with rfl | rfl
  ·rcases g.1 with z | ⟨_,z⟩<;>exact ⟨_,z⟩
  ·exact ⟨_,g.2⟩
 frame:=fun j h h' g k=>⟨g.1.imp (fun z=>k _ _ (.head _) z) fun z=>⟨z.1,k _ _ (.head _) z.2⟩,k _ _ (.tail _ (.head _)) g.2⟩
end
section
variable {A:Around} {s:Shared} {b:Heap} {Q:VS} {E:VS}
theorem yJU {L fa H:Addr} {N off n:Nat} {e:Nat->Value} {m:Str->Option Value} {oc:Nat->Obj} {dat:Nat->Option Value} {ps:Array Value} {cds R:List (Addr×Obj)}
  (hA:A.handled=none) (S:LS b s.heap L m oc dat ps cds R) (e_h:m (Str.ofString "handed")=some (.ref H)) (hn:off+n=N) (h128:N < 128)
  (he:∀ j,j < N->X3 fun a t c=>e j=.ref a/\(a,listOf #[.int (j:Int) t] c)∈R)
  (hmade:∀ x px,wpAny (model prog w) A (pyIter (.ref H)) (yJC b L m (C5 L oc++(129,tabObj ps)::(cds++R)) prog w A (.Name x px) n (fun j v=>v=e (off+j)) s) E s)
  (k:∀ D h8 tk8 us c,LS b h8 L m oc dat ps cds ((D,listOf (List.toArray us) c)::R)->IntsAre us (rangeKs off n)->Q (.ref D) {s with heap:=h8,toks:=tk8}):
  wpAny (model prog w) A (eval yXt (envW L fa)) Q E s:=by
 conv in yXt=>whnf
 have F:=S.fr
 have N0:=S.nw
 refine src_list (L:=L) (m:=m) (B:=b) (n:=n) (V:=fun j v=>v=e (off+j)) (news:=C5 L oc++(129,tabObj ps)::(cds++R)) (cl:=[]) (Nm:=NmV "thing" _) (fun O=>true) (fun j y nw=>(∃ t,y=.int ((off+j:Nat):Int) t)/\nw=[]) (by kernel_rfl) (by decide +kernel) (by decide +kernel) (by intro _;rfl) (jg3 [_,_,_] 0xf0000080dab2f2a01f0ab00003e8d (qD hn :) h128) (by rfl) ?_ (stores_name (by rfl) (by rfl)) yQo ?_ ?_
 ·show wpAny _ _ _ _ _ _
  refine nameX_L F e_h ?_ rfl rfl
  exact hmade _ _
 ·intro j h ma3 tk E' C hj hp hn' hnm hG
  obtain ⟨v,rfl,hv1⟩:=hnm
  obtain ⟨a,t,c,ea,ga⟩:=he (off+j) (jl3 [_,_,_,_] 0xf3ab2f0a31fa210 (qD hn :) hj)
  rw [ea] at hv1
  have ga:=hG.2 _ (qB _ (.tail _ (qB _ ga)))
  walk_at "rI"
  refine yQf ga (by decide) (by decide) rfl (yZN.of rfl (fun _ _ e=>e) ⟨⟨t,rfl⟩,rfl⟩)
 intro D h8 tk8 rs hr hm
 obtain ⟨r1,r2,r3⟩:=hr.plain (f:=fun j y=>∃ t,y=.int ((off+j:Nat):Int) t) fun j y nw q=>q
 obtain ⟨F8,⟨c8,N8⟩,off8⟩:=hm
 rw [r1] at N8
 rw [yQt] at r2 r3
 rw [length_range] at r2
 refine k D h8 _ _ c8 (S.grow (xs:=[(D,listOf (rs.map (·.1)).toArray c8)]) F8 (fun q hq=>N8 q (by simpa using hq)) (fun q hq=>by rw [qC.mp hq];exact yQe)) (ints_of (by rw [r2,rangeKs_length]) fun i v hi=>?_)
 obtain ⟨t,e1⟩:=r3 i v hi
 have hil:i < n:=by rw [<- r2];exact (List.getElem?_eq_some_iff.mp hi).1
 refine ⟨t,e1.trans ?_⟩
 unfold rangeKs
 simp [hil]
def yZJ (b h:Heap) (L DL:Addr) (m:Str->Option Value) (dat:Nat->Option Value) (R:List (Addr×Obj)):Prop:=
 X4 fun oc' dat' ps' yQn=>A3 (LS b h L m oc' dat' ps' yQn R) (dat' 0=some (.ref DL)) (dat' 4=dat 4)
end
namespace K_chk_eight
def zP (A:Around) (s:Shared) (b:Heap) (E:VS) (L fa DL:Addr) (N r:Nat) (vs vals:List Value) (raw:Nat->Rw) (kd:String) (m1:Str->Option Value) (dat:Nat->Option Value) (R:List (Addr×Obj)) (tr ty tz:Tok) (QF:Flow->Shared->Prop):Prop:=∀ (wy:Nat) (hu:A.units<=460) (hA:A.handled=none) (X:(hd01.heap_1 w.params).In b) (T:Top p loose yQv mg mb b) (hw:wy < 3) (h128:N < 128) (hr:r<=N) (hRI:∀ q∈R,q.2.cls≠.type "list_iterator") (hC:yVg wy raw N r vs vals kd b s.heap L DL m1 dat R) (e_y:m1 (Str.ofString "way")=some (.str (Str.ofString (wNm wy)) ty)) (e_z:m1 (Str.ofString "size")=some (.int (N:Int) tz)) (e_r:m1 (Str.ofString "read")=some (.int (r:Int) tr)) (k:∀ h' tk,yZJ b h' L DL m1 dat R->QF .next {s with heap:=h',toks:=tk}),
  wpAny (model prog w) A (execs (yQb.drop 8) (envW L fa)) QF E s
def zc:=ep (U20 zP) ⟨({},(start default).1,default,fun O O=>True,0,0,0,0,0,[],[],fun O=>.thorn,"",fun O=>none,fun O=>none,[],0,0,0,fun O O=>True)⟩
def zd1:=zc.2.2.2.2.2.2.2.2
def zd2:=zd1.2.2.2.2.2.2.2.2
def A:=zc.1
def s:=zc.2.1
def b:=zc.2.2.1
def L:=zc.2.2.2.2.1
def N:=zc.2.2.2.2.2.2.2.1
def r:=zd1.1
def vs:=zd1.2.1
def m1:=zd1.2.2.2.2.2.1
def R:=zd1.2.2.2.2.2.2.2.1
theorem zh:zP A s b zc.2.2.2.1 L zc.2.2.2.2.2.1 zc.2.2.2.2.2.2.1 N r vs zd1.2.2.1 zd1.2.2.2.1 zd1.2.2.2.2.1 m1 zd1.2.2.2.2.2.2.1 R zd2.1 zd2.2.1 zd2.2.2.1 zd2.2.2.2:=by
 intro wy hu hA X T hw h128 hr hRI hC e_y e_z e_r k
 obtain ⟨oc',dat',ps',yQn,R',e,TH,cT,l,wv,S,hAg,hq,⟨a0,a1,a2,a4⟩,hT,hH,d0⟩:=hC
 conv in yQb.drop 8=>whnf
 have F:=S.fr
 have N0:=S.nw
 rcases hH with ⟨rfl,HD,cH,e_h,hHD⟩ | ⟨rfl,SRC,o,e_h,hSRC,ho,hoff⟩ | rfl
 ·walk1
  walk_at "rI"
  refine ne_str ?_
  rw [show (Str.ofString (wNm 0) != Str.ofString "stream")=true from by decide +kernel]
  walk_at "rI"
  refine yJU (s:={ s with toks:=_ }) (off:=0) (n:=N) hA S e_h (zero_add N) h128 hT.2 (fun x px=>?_) fun D h8 tk8 us c S8 iU=>?_
  ·simp only [zero_add]
   exact made_list hA (.inl ⟨_,_,rfl⟩) S.fr S.nw (S.at hHD)
  have F8:=S8.fr
  have N8:=S8.nw
  walk_at "rI"
  rename_i h9 tk9 t1 u1 v1 hrg F9 N9 k9
  refine kll_range (n:=N) hA F9 N9 hrg (small_r (jg2 [_] 0xf0000080dab0f0ab00186a0d h128)) (by rw [rangeSize_nat];lia) (qZ (wM h128) (by decide)) fun D2 us2 c2 hA1 tkA FA NA lA iU2=>?_
  have SA:=S8.grow (xs:=[(D2,listOf us2.toArray c2)]) FA NA (fun q hq=>by rw [qC.mp hq];exact yQe)
  clear FA NA F9 N9
  have FA:=SA.fr
  have NA:=SA.nw
  walk_at "rI"
  refine ke_ne_ints (xs:=us) (ys:=us2) (qW (n:=c) (SA.at (.tail _ (.head _)))) (qW (n:=c2) (SA.at (.head _))) iU iU2 (by show A.units+64 < cLine;simp [cLine];exact (jl2 [_] 0xf00001ccd0fa0000040d000026acd hu)) ?_
  rw [decide_eq_true (p:=rangeKs ((0:Nat):Int) N=rangeKs 0 N) rfl]
  walk_at "rI"
  dsimp only
  walk_at "rI"
  exact k _ _ ⟨oc',dat',ps',yQn,SA.less fun q hq'=>.tail _ (.tail _ (hq q (qB _ hq'))),a0,a4⟩
 ·have noI:∀ q∈R',(∃ vs c,q.2=listOf vs c)->q.1≠SRC:=fun q hq hl=>by
   rcases hoff q hq with rfl | z
   ·obtain ⟨vs,c,z⟩:=hl
    dsimp only at z
    rcases ho with z2 | ⟨_,z2⟩
    ·rw [z] at z2;have:=wE Obj.cls z2;simp [W.listOf,liObj] at this
    ·rw [z] at z2;have:=wE Obj.cls z2;simp [W.listOf,liEnd] at this
   ·exact z
  have inF:∀ q∈R',q.1≠SRC->q∈R'.filter (fun q=>decide (q.1≠SRC)):=fun q hq hn=>List.mem_filter.mpr ⟨hq,decide_eq_true hn⟩
  have S1:LS b s.heap L m1 oc' dat' ps' yQn (R'.filter (fun q=>decide (q.1≠SRC))):=S.less fun q hq=>(List.mem_filter.mp hq).1
  have gTH:=inF _ hT.1 (noI _ hT.1 ⟨_,_,rfl⟩)
  have gS:=S.at hSRC
  have NS:=S.nw (SRC,o) (S.mem hSRC)
  have hRF:∀ q∈R,q∈R'.filter (fun q=>decide (q.1≠SRC)):=fun q hq'=>by
   have hm:=hq q (qB _ hq')
   refine inF q hm ?_
   rcases hoff q hm with rfl | z
   ·exfalso
    refine hRI _ hq' ?_
    rcases ho with rfl | ⟨_,rfl⟩<;>rfl
   ·exact z
  walk1
  walk_at "rI"
  refine ne_str ?_
  rw [show (Str.ofString (wNm 1) != Str.ofString "stream")=true from by decide +kernel]
  walk_at "rI"
  refine yJU (s:={ s with toks:=_ }) (off:=r) (n:=N - r) hA S1 e_h (by exact (qH (jg2 [_,_,_] 0xf0a12fa21ab0 (nc (jg2 [_,_] 0xf01f1ab0 hr))) (jg2 [_,_,_] 0xfa012f2aba10 na))) h128 (fun j hj=>by
   obtain ⟨a,t,c,q1,q2⟩:=hT.2 j hj
   exact ⟨a,t,c,q1,inF _ q2 (noI _ q2 ⟨_,_,rfl⟩)⟩) (fun x px=>?_) fun D h8 tk8 us c S8 iU=>?_
  ·refine yQG (o:=o) gS (by rcases ho with rfl | ⟨_,rfl⟩<;>rfl) ⟨SRC,s.heap,_,[TH],froSt SRC TH e N r cT,rfl,rfl,S1.fr,S1.nw,NS.2.1,NS.2.2,fun q hq'=>?_,yXR hA hr (noI _ hT.1 ⟨_,_,rfl⟩),⟨?_,S.at hT.1⟩⟩
   ·rcases qF.mp hq' with hc | hq'
    ·obtain ⟨i,hi,rfl⟩:=yXZ hc
     refine led_ne S.nw (qY _ hc) (S.mem hSRC) fun z=>?_
     have h5:=S.cl i hi
     dsimp only at z
     rw [z] at h5
     rcases ho with rfl | ⟨_,rfl⟩<;>cases h5
    rcases qG.mp hq' with rfl | hq'
    ·exact led_ne S.nw (qB _ (.head _)) (S.mem hSRC) fun z=>by rcases ho with rfl | ⟨_,rfl⟩<;>cases z
    rcases qF.mp hq' with hq' | hq'
    ·refine led_ne S.nw (qB _ (.tail _ (qY _ hq'))) (S.mem hSRC) fun z=>?_
     obtain ⟨_,_,_,hf,hv⟩:=S.tb.code q hq'
     rw [z] at hf
     rcases ho with rfl | ⟨_,rfl⟩
     ·have hf:=(Data.fields.inj hf).symm;subst hf;simp at hv
     ·have hf:=(Data.fields.inj hf).symm;subst hf;simp at hv
    ·exact of_decide_eq_true (List.mem_filter.mp hq').2
   ·rcases ho with rfl | ⟨z,rfl⟩
    ·exact .inl gS
    ·exact .inr ⟨z,gS⟩
  have F8:=S8.fr
  have N8:=S8.nw
  walk_at "rI"
  rename_i h9 tk9 t1 u1 v1 hrg F9 N9 k9
  refine kll_range (n:=N - r) hA F9 N9 hrg (small_rn hr (jg2 [_] 0xf0000080dab0f0ab00186a0d h128)) (by rw [rangeSize_nat];exact wE _ (Int.toNat_sub N r)) (qZ (vD _ _) (qZ (wM h128) (by decide))) fun D2 us2 c2 hA1 tkA FA NA lA iU2=>?_
  have SA:=S8.grow (xs:=[(D2,listOf us2.toArray c2)]) FA NA (fun q hq=>by rw [qC.mp hq];exact yQe)
  clear FA NA F9 N9
  have FA:=SA.fr
  have NA:=SA.nw
  walk_at "rI"
  refine ke_ne_ints (xs:=us) (ys:=us2) (qW (n:=c) (SA.at (.tail _ (.head _)))) (qW (n:=c2) (SA.at (.head _))) iU iU2 (by show A.units+64 < cLine;simp [cLine];exact (jl2 [_] 0xf00001ccd0fa0000040d000026acd hu)) ?_
  rw [decide_eq_true (p:=rangeKs ((r:Nat):Int) (N - r)=rangeKs r (N - r)) rfl]
  walk_at "rI"
  dsimp only
  walk_at "rI"
  exact k _ _ ⟨oc',dat',ps',yQn,SA.less fun q hq'=>.tail _ (.tail _ (hRF q hq')),a0,a4⟩
 ·walk1
  walk_at "rI"
  refine ne_str ?_
  rw [show (Str.ofString (wNm 2) != Str.ofString "stream")=false from by decide +kernel]
  walk_at "rI"
  exact k _ _ ⟨oc',dat',ps',yQn,S.less fun q hq'=>hq q (qB _ hq'),a0,a4⟩
end K_chk_eight
section
variable {A:Around} {s:Shared} {b:Heap} {Q:VS} {E:VS}
theorem yZs {L fa DL:Addr} {wy N r:Nat} {vs vals:List Value} {raw:Nat->Rw} {kd:String} {m1:Str->Option Value} {dat:Nat->Option Value} {R:List (Addr×Obj)} {tr ty tz:Tok} {QF:Flow->Shared->Prop}
  (hu:A.units<=460) (hA:A.handled=none) (X:(hd01.heap_1 w.params).In b) (T:Top p loose yQv mg mb b) (hw:wy < 3) (h128:N < 128) (hr:r<=N) (hRI:∀ q∈R,q.2.cls≠.type "list_iterator")
  (hC:yVg wy raw N r vs vals kd b s.heap L DL m1 dat R)
  (e_y:m1 (Str.ofString "way")=some (.str (Str.ofString (wNm wy)) ty)) (e_z:m1 (Str.ofString "size")=some (.int (N:Int) tz)) (e_r:m1 (Str.ofString "read")=some (.int (r:Int) tr))
  (k:∀ h' tk,yZJ b h' L DL m1 dat R->QF .next {s with heap:=h',toks:=tk}):
  wpAny (model prog w) A (execs (yQb.drop 8) (envW L fa)) QF E s:=
 eps (P:=U20 K_chk_eight.zP) K_chk_eight.zh (A,s,b,E,L,fa,DL,N,r,vs,vals,raw,kd,m1,dat,R,tr,ty,tz,QF) wy hu hA X T hw h128 hr hRI hC e_y e_z e_r k
end
theorem yXV {dn:Bool} {M:Int} {raw:Nat->Rw} {N:Nat} {wish:Int} {kd:String} {vals:List Value} {r:Nat} (h:yCq dn M raw N wish kd vals r):r<=N/\(kd="told"->vals.length<=N)/\(kd="told"\/kd="thorn"\/kd="kinds"):=by
 rcases h with ⟨rfl,ord,iv,hS⟩ | ⟨rfl,j,_,_,rfl,h3,_⟩ | ⟨rfl,ws,_,hK⟩
 ·rcases hS with ⟨_,rfl,rfl⟩ | ⟨_,_,rfl,rfl⟩
  ·refine ⟨vZ _,fun O=>?_,.inl rfl⟩
   rw [iv.length];exact vZ _
  ·refine ⟨vC _,fun O=>?_,.inl rfl⟩
   rw [iv.length,length_map,length_take,ordD_len]
   exact min_le_right _ _
 ·exact ⟨h3,fun z=>absurd z (by decide),.inr (.inl rfl)⟩
 ·refine ⟨?_,fun z=>absurd z (by decide),.inr (.inr rfl)⟩
  rcases hK with ⟨_,rfl,_⟩ | ⟨j,q,_,rfl,h3,_⟩
  ·exact min_le_left _ _
  ·exact h3
section
variable {A:Around} {s:Shared} {b:Heap} {Q:VS} {E:VS}
theorem yXQ {L fa DL RWS:Addr} {wy N cD cR r:Nat} {vs vals:List Value} {raw:Nat->Rw} {wish M:Int} {dn:Bool} {kd:String} {m:Str->Option Value} {oc:Nat->Obj} {dat:Nat->Option Value} {ps:Array Value} {cds R:List (Addr×Obj)} {tz tw ty te tr:Tok} {QF:Flow->Shared->Prop}
  (hd:A.depth<=495) (hu:A.units<=460) (hA:A.handled=none) (hfr:A.frames=some [envW L fa]) (X:(hd01.heap_1 w.params).In b) (T:Top p loose yQv mg mb b) (C:CodeHd b 131 129) (hw:wy < 3)
  (S0:LS b s.heap L m oc dat ps cds R) (hR:(RWS,listOf vs.toArray cR)∈R) (d4:dat 4=some (.ref RWS)) (hvs:vs.length=N) (h128:N < 128) (hv:∀ j,j < N->IsR (vs.getD j .none) (raw j)) (hM:∀ p,p < N->(raw p).t=false->-M<=(raw p).z/\(raw p).z<=M)
  (hD:yCq dn M raw N wish kd vals r) (hDL:(DL,listOf vals.toArray cD)∈R) (d0:dat 0=some (.ref DL)) (hRI:∀ q∈R,q.2.cls≠.type "list_iterator")
  (e_z:m (Str.ofString "size")=some (.int (N:Int) tz)) (e_w:m (Str.ofString "wish")=some (.int wish tw)) (e_l:m (Str.ofString "largest")=some (.bool dn)) (e_y:m (Str.ofString "way")=some (.str (Str.ofString (wNm wy)) ty))
  (e_e:m (Str.ofString "end")=some (.str (Str.ofString kd) te)) (e_r:m (Str.ofString "read")=some (.int (r:Int) tr))
  (k:∀ h' tk m',yZJ b h' L DL m' dat R->(∀ x,x≠Str.ofString "came"->x≠Str.ofString "key"->x≠Str.ofString "handed"->m' x=m x)->QF .next {s with heap:=h',toks:=tk}):
  wpAny (model prog w) A (execs yQb (envW L fa)) QF E s:=by
 obtain ⟨hr,hlen,hkd⟩:=yXV hD
 have go:∀ h' tk m',yYd wy dn M raw N wish vs b h' L m m' dat R->wpAny (model prog w) A (execs (yQb.drop 6) (envW L fa)) QF E {s with heap:=h',toks:=tk}:=fun h1 tk1 m1 hRan=>by
  refine yBR (s:={s with heap:=h1,toks:=tk1}) hu hA X T h128 hr hRan hD hDL d0 e_e e_r fun h2 tk2 hC2 hm=>?_
  have g:∀ {x v},m x=some v->x≠Str.ofString "came"->x≠Str.ofString "key"->x≠Str.ofString "handed"->m1 x=some v:=fun q x1 x2 x3=>(hm _ x1 x2 x3).trans q
  have fin:∀ h3 tk3,yVg wy raw N r vs vals kd b h3 L DL m1 dat R->wpAny (model prog w) A (execs (yQb.drop 8) (envW L fa)) QF E {s with heap:=h3,toks:=tk3}:=fun h3 tk3 hC3=>
   yZs (s:={s with heap:=h3,toks:=tk3}) hu hA X T hw h128 hr hRI hC3 (g e_y (by decide) (by decide) (by decide)) (g e_z (by decide) (by decide) (by decide)) (g e_r (by decide) (by decide) (by decide)) fun h4 tk4 hT=>k h4 tk4 m1 hT hm
  rcases hkd with rfl | hkd
  ·exact yZt (s:={s with heap:=h2,toks:=tk2}) hd hu hA X T hw h128 hC2 hDL hR d4 hvs hv (g e_e (by decide) (by decide) (by decide)) (g e_y (by decide) (by decide) (by decide)) (hlen rfl) fin
  ·exact yXW (s:={s with heap:=h2,toks:=tk2}) hu hA X T hC2 hkd hDL (g e_e (by decide) (by decide) (by decide)) fin
 rcases (show wy=0\/wy=1\/wy=2 from np36 (by assumption)) with rfl | rfl | rfl
 ·exact yZW hd hu hA hfr X T C S0 hR d4 hvs h128 hv hM e_z e_w e_l e_y go
 ·exact yZX hd hu hA hfr X T C S0 hR d4 hvs h128 hv hM e_z e_w e_l e_y go
 ·exact yXB hd hu hA hfr X T C S0 hR d4 hvs h128 hv hM e_z e_w e_l e_y go
end
def yQr (x:Str):Prop:=x=Str.ofString "came"\/x=Str.ofString "key"\/x=Str.ofString "handed"\/x=Str.ofString "way"
def JI (L DL:Addr) (m:Str->Option Value) (d4:Option Value) (RR:List (Addr×Obj)) (_:Nat) (m':Str->Option Value) (news:List (Addr×Obj)):Prop:=
 X4 fun (oc':Nat->Obj) (dat':Nat->Option Value) ps' yQn=>A6 (news=C5 L oc'++(129,tabObj ps')::(yQn++RR)) (∀ i,i < 5->(oc' i).data=.cell (dat' i)) (yVm ps' yQn) (dat' 0=some (.ref DL)) (dat' 4=d4) (∀ x,¬ yQr x->m' x=m x)
theorem yAR {R I:Addr} {j:Nat} {o:Obj} (h:tuIO R j o):Cln (I,o):=⟨fun v z=>(by have z:=h.2.symm.trans z;cases z),fun z=>(by have z:=h.1.symm.trans z;cases z)⟩
theorem yBi {m m' m'':Str->Option Value} {v:Option Value} (h:∀ x,¬ yQr x->m x=m'' x) (h2:∀ x,x≠Str.ofString "came"->x≠Str.ofString "key"->x≠Str.ofString "handed"->m' x=if x=Str.ofString "way" then v else m x):∀ x,¬ yQr x->m' x=m'' x:=fun x hx=>by
 have a:x≠Str.ofString "came":=fun z=>hx (.inl z)
 have b:x≠Str.ofString "key":=fun z=>hx (.inr (.inl z))
 have c:x≠Str.ofString "handed":=fun z=>hx (.inr (.inr (.inl z)))
 have d:x≠Str.ofString "way":=fun z=>hx (.inr (.inr (.inr z)))
 rw [h2 x a b c,qM d];exact h x hx
namespace K_outer_turn
def zP (A:Around) (s:Shared) (b:Heap) (E:VS) (L fa RWS:Addr) (N cR:Nat) (vs:List Value) (raw:Nat->Rw) (wish M:Int) (dn:Bool) (m:Str->Option Value) (oc:Nat->Obj) (dat:Nat->Option Value) (ps:Array Value) (cds R:List (Addr×Obj)) (tz tw:Tok) (QF:Flow->Shared->Prop):Prop:=∀ (hd:A.depth<=495) (hu:A.units<=460) (hA:A.handled=none) (hfr:A.frames=some [envW L fa]) (X:(hd01.heap_1 w.params).In b) (T:Top p loose yQv mg mb b) (C:CodeHd b 131 129) (S0:LS b s.heap L m oc dat ps cds R) (hR:(RWS,listOf vs.toArray cR)∈R) (d4:dat 4=some (.ref RWS)) (hvs:vs.length=N) (h128:N < 128) (hv:∀ j,j < N->IsR (vs.getD j .none) (raw j)) (hM:∀ p,p < N->(raw p).t=false->-M<=(raw p).z/\(raw p).z<=M) (hRI:∀ q∈R,q.2.cls≠.type "list_iterator") (e_z:m (Str.ofString "size")=some (.int (N:Int) tz)) (e_w:m (Str.ofString "wish")=some (.int wish tw)) (e_l:m (Str.ofString "largest")=some (.bool dn)) (k:∀ h' tk m' oc' dat' ps' yQn,A4 (LS b h' L m' oc' dat' ps' yQn R) (dat' 4=dat 4) (m' (Str.ofString "size")=m (Str.ofString "size")) (m' (Str.ofString "wish")=m (Str.ofString "wish"))->QF .next {s with heap:=h',toks:=tk}),
  wpAny (model prog w) A (execs yJX (envW L fa)) QF E s
def zc:=ep (U23 zP) ⟨({},(start default).1,default,fun O O=>True,0,0,0,0,0,[],fun O=>.thorn,0,0,true,fun O=>none,fun O=>default,fun O=>none,#[],[],[],0,0,fun O O=>True)⟩
def zd1:=zc.2.2.2.2.2.2.2.2
def zd2:=zd1.2.2.2.2.2.2.2.2
def A:=zc.1
def s:=zc.2.1
def b:=zc.2.2.1
def E:=zc.2.2.2.1
def L:=zc.2.2.2.2.1
def RWS:=zc.2.2.2.2.2.2.1
def N:=zc.2.2.2.2.2.2.2.1
def raw:=zd1.2.2.1
def wish:=zd1.2.2.2.1
def M:=zd1.2.2.2.2.1
def dn:=zd1.2.2.2.2.2.1
def m:=zd1.2.2.2.2.2.2.1
def oc:=zd1.2.2.2.2.2.2.2.1
def dat:=zd2.1
def ps:=zd2.2.1
def cds:=zd2.2.2.1
def R:=zd2.2.2.2.1
theorem zh:zP A s b E L zc.2.2.2.2.2.1 RWS N zd1.1 zd1.2.1 raw wish M dn m oc dat ps cds R zd2.2.2.2.2.1 zd2.2.2.2.2.2.1 zd2.2.2.2.2.2.2:=by
 intro hd hu hA hfr X T C S0 hR d4 hvs h128 hv hM hRI e_z e_w e_l k
 conv in yJX=>whnf
 have F:=S0.fr
 have N0:=S0.nw
 walk_at "rI"
 refine LS.get (i:=4) (by exact S0) (by decide) d4 ?_
 walk_at "rI"
 refine yBE (b:=s.heap) (raw:=raw) (M:=M) (N:=N) (qZ hd (by decide)) (qZ hu (by decide)) hA (fun _ _ q=>q) (by exact vC _) (X.keeps F.keep) (T.keeps F.keep) (S0.at hR) hvs h128 hv ?_
 rintro h1 tk1 D st1 nD ⟨r,kd,t1,t2,DL,cD,mm,vals,gD,gDL,nDL,hP⟩
 have hP:yCq dn M raw N wish kd vals r:=hP
 have S1:=(S0.keeps st1).grow (xs:=[(DL,listOf vals.toArray cD)]) (fr_keeps F st1) (fun q hq=>by
  rcases qF.mp hq with hq | hq
  ·rw [qC.mp hq]
   refine ⟨gDL,fun e=>?_,none_sub F.keep nDL⟩
   obtain ⟨o,ho⟩:=yQk F.ns
   rw [<- show DL=L from e] at ho
   rw [nDL] at ho;cases ho
  ·exact news_keeps N0 st1 q hq) (fun q hq=>by rw [qC.mp hq];exact yQe)
 refine assign_Tuple_tuple hA ⟨_,gD,rfl,_,rfl⟩ rfl rfl fun h2 he2=>?_
 have S2:=S1.keeps fun a o q=>he2 a o (vB (qU q)) q
 clear F N0
 have F2:=S2.fr
 have N2:=S2.nw
 walk_at "rI"
 rename_i h3 F3 N3
 refine (S2.same F3 N3).set (i:=0) (by decide) fun h4 o4 S4 _=>?_
 clear F3 N3
 obtain ⟨m4,S4,e_r4,e_e4,hm4⟩:∃ m4,A4 (LS b h4 L m4 (setA oc 0 o4) (setA dat 0 (some (.ref DL))) ps cds ([(DL,listOf vals.toArray cD)]++R)) (m4 (Str.ofString "read")=some (.int (r:Int) t1)) (m4 (Str.ofString "end")=some (.str (Str.ofString kd) t2)) (∀ x,x≠Str.ofString "end"->x≠Str.ofString "read"->m4 x=m x):=⟨_,S4,rfl,rfl,fun x x1 x2=>(qM x1).trans (qM x2)⟩
 have F4:=S4.fr
 have N4:=S4.nw
 walk_at "rI"
 refine wpAny_For ?_
 walk_at "rI"
 rename_i WT h5 F5 N5 l5
 obtain ⟨oW,t0',t1',t2',hoW,N5⟩:X4 fun oW t0' t1' t2'=>(oW.cls=.type "tuple"/\oW.data=.seq #[.str (Str.ofString (wNm 0)) t0',.str (Str.ofString (wNm 1)) t1',.str (Str.ofString (wNm 2)) t2'] 0)/\News b L h5 ((WT,oW)::(C5 L (setA oc 0 o4)++(129,tabObj ps)::(cds++([(DL,listOf vals.toArray cD)]++R)))):=⟨_,_,_,_,⟨rfl,rfl⟩,N5⟩
 have hRR:∀ q∈(WT,oW)::([(DL,listOf vals.toArray cD)]++R),Cln q/\q.2.cls≠.type "list_iterator":=fun q hq=>by
  rcases qG.mp hq with rfl | hq
  ·exact ⟨⟨fun v z=>(by have z:=hoW.2.symm.trans z;cases z),fun z=>(by have z:=hoW.1.symm.trans z;cases z)⟩,fun z=>absurd (hoW.1.symm.trans z) (by decide)⟩
  rcases qG.mp hq with rfl | hq
  ·exact ⟨yQe,fun z=>by simp [W.listOf] at z⟩
  ·exact ⟨S0.rc q hq,hRI q hq⟩
 refine yWn (s:=s) (oR:=oW) (nR:=0) (J:=JI L DL m4 (dat 4) ((WT,oW)::([(DL,listOf vals.toArray cD)]++R))) hA F5 (news0:=C5 L (setA oc 0 o4)++(129,tabObj ps)::(cds++((WT,oW)::([(DL,listOf vals.toArray cD)]++R)))) (fun q hq=>N5 q (by
   simp only [qG,qF] at hq ⊢
   rcases hq with q | q | q | q | q
   ·exact .inr (.inl q)
   ·exact .inr (.inr (.inl q))
   ·exact .inr (.inr (.inr (.inl q)))
   ·exact .inl q
   ·exact .inr (.inr (.inr (.inr q))))) ⟨_,setA dat 0 (some (.ref DL)),ps,cds,rfl,S4.cl,S0.tb,rfl,rfl,fun O O=>rfl⟩ hoW (fun j m news hJ=>?_) (fun I s j v Q E hv hit k=>qI k) ?_ ?_
 ·obtain ⟨_,_,_,_,rfl,_⟩:=hJ
  exact qB _ (.tail _ (qB _ (.head _)))
 ·clear F5 N5 S4
  intro I j h6 tk6 m6 news v o hvj hJ F6 N6 ho off
  obtain ⟨oc6,dat6,ps6,cds6,rfl,c6,tb6,d60,d64,hm6⟩:=hJ
  obtain ⟨hj,ty,rfl⟩:∃ hj:j < 3,∃ ty,v=.str (Str.ofString (wNm j)) ty:=by
   rcases j with _ | _ | _ | j
   ·exact ⟨by decide,_,(wD hvj).symm⟩
   ·exact ⟨by decide,_,(wD hvj).symm⟩
   ·exact ⟨by decide,_,(wD hvj).symm⟩
   ·simp at hvj
  have S6:LS b h6 L m6 oc6 dat6 ps6 cds6 ((I,o)::((WT,oW)::([(DL,listOf vals.toArray cD)]++R))):=⟨F6,fun q hq=>N6 q (by
   simp only [qG,qF] at hq ⊢
   rcases hq with q | q | q | q | q
   ·exact .inr (.inl q)
   ·exact .inr (.inr (.inl q))
   ·exact .inr (.inr (.inr (.inl q)))
   ·exact .inl q
   ·exact .inr (.inr (.inr (.inr q)))),c6,tb6,fun q hq=>by
    rcases qG.mp hq with rfl | hq
    ·exact yAR ho
    ·exact (hRR q hq).1,S0.lt⟩
  clear F6 N6
  have F6:=S6.fr
  have N6:=S6.nw
  (repeat' first | (k_unfold;try dsimp only) | ((fail_if_success (with_reducible refine stp 0x1000000000f1 (by constructor) ?_ ?_);decide);walk_at "s"))
  rename_i h7 F7 N7
  have S7:=S6.same F7 N7
  have g:∀ {x v},m4 x=some v->¬ yQr x->(fun y=>if y=Str.ofString "way" then some (Value.str (Str.ofString (wNm j)) ty) else m6 y) x=some v:=fun {x v} q hx=>by
   have d:x≠Str.ofString "way":=fun z=>hx (.inr (.inr (.inr z)))
   show (if x=Str.ofString "way" then _ else m6 x)=some v
   rw [qM d,hm6 x hx];exact q
  refine yXQ (RWS:=RWS) (DL:=DL) (raw:=raw) (M:=M) (wish:=wish) (dn:=dn) (kd:=kd) hd hu hA hfr X T C hj S7 (.tail _ (.tail _ (.tail _ hR))) (d64.trans d4) hvs h128 hv hM hP (.tail _ (.tail _ (.head _))) d60 (fun q hq=>by
   rcases qG.mp hq with rfl | hq
   ·exact fun z=>absurd (ho.1.symm.trans z) (by decide)
   ·exact (hRR q hq).2) (g ((hm4 _ (by decide) (by decide)).trans e_z) (by unfold yQr;decide +kernel)) (g ((hm4 _ (by decide) (by decide)).trans e_w) (by unfold yQr;decide +kernel)) (g ((hm4 _ (by decide) (by decide)).trans e_l) (by unfold yQr;decide +kernel)) (by rfl) (g e_e4 (by unfold yQr;decide +kernel)) (g e_r4 (by unfold yQr;decide +kernel)) ?_
  rintro h8 tk8 m8 ⟨oc8,dat8,ps8,cds8,S8,d80,d84⟩ hm8
  refine ⟨h8,tk8,m8,C5 L oc8++(129,tabObj ps8)::(cds8++((WT,oW)::([(DL,listOf vals.toArray cD)]++R))),o,rfl,⟨oc8,dat8,ps8,cds8,rfl,S8.cl,S8.tb,d80,d84.trans d64,yBi hm6 hm8⟩,S8.fr,fun q hq=>S8.nw q (by
   simp only [qG,qF] at hq ⊢
   rcases hq with q | q | q | q | q
   ·exact .inr (.inr (.inr (.inl q)))
   ·exact .inl q
   ·exact .inr (.inl q)
   ·exact .inr (.inr (.inl q))
   ·exact .inr (.inr (.inr (.inr q)))),ho,fun q hq=>?_⟩
  have mI:=S8.mem (q:=(I,o)) (.head _)
  rcases qF.mp hq with hc | hq
  ·obtain ⟨i,hi,rfl⟩:=yXZ hc
   refine led_ne S8.nw (qY _ hc) mI fun z=>?_
   have h5:=S8.cl i hi
   dsimp only at z
   rw [z] at h5
   exact absurd (ho.2.symm.trans h5) (fun z=>by cases z)
  rcases qG.mp hq with rfl | hq
  ·exact led_ne S8.nw (qB _ (.head _)) mI fun z=>absurd (ho.1.symm.trans (wE Obj.cls z).symm) (fun z=>by cases z)
  rcases qF.mp hq with hq | hq
  ·refine led_ne S8.nw (qB _ (.tail _ (qY _ hq))) mI fun z=>?_
   obtain ⟨_,_,_,hf,hv⟩:=S8.tb.code q hq
   rw [z] at hf
   have hf:=(Data.fields.inj (ho.2.symm.trans hf)).symm;subst hf;simp at hv
  ·exact off q (qB _ (.tail _ (qB _ hq)))
 ·intro h6 tk6 m6 news hJ F6 N6
  obtain ⟨oc6,dat6,ps6,cds6,rfl,c6,tb6,d60,d64,hm6⟩:=hJ
  walk_at "rI"
  have S6:LS b h6 L m6 oc6 dat6 ps6 cds6 ((WT,oW)::([(DL,listOf vals.toArray cD)]++R)):=⟨F6,N6,c6,tb6,fun q hq=>(hRR q hq).1,S0.lt⟩
  exact k h6 _ m6 oc6 dat6 ps6 cds6 ⟨S6.less fun q hq=>.tail _ (.tail _ hq),d64,(hm6 _ (by unfold yQr;decide +kernel)).trans (hm4 _ (by decide) (by decide)),(hm6 _ (by unfold yQr;decide +kernel)).trans (hm4 _ (by decide) (by decide))⟩
end K_outer_turn
theorem yXH {A s b E L fa RWS N cR vs raw wish M dn m oc dat ps cds R tz tw QF}:K_outer_turn.zP A s b E L fa RWS N cR vs raw wish M dn m oc dat ps cds R tz tw QF:=eps (P:=U23 K_outer_turn.zP) K_outer_turn.zh (A,s,b,E,L,fa,RWS,N,cR,vs,raw,wish,M,dn,m,oc,dat,ps,cds,R,tz,tw,QF)
noncomputable def lawNs (ns:List Int):List Int:=ns.drop 1++(if ns.length % 2=0 then [42,50,15,2,90] else [])
noncomputable def lawRaw (ns:List Int) (j:Nat):Rw:=rawOf ((lawNs ns).getD j 0)
theorem law_len {ns:List Int} (h:ns.length<=63):(lawNs ns).length<=68:=by
 unfold lawNs
 rw [length_append,length_drop]
 split
 ·simp;exact qZ h (by decide)
 ·simp;lia
theorem bound_n (raw:Nat->Rw):∀ N,∃ M:Nat,∀ p,p < N->(raw p).z.natAbs<=M
 | 0=>⟨0,fun p hp=>absurd hp (Nat.not_lt_zero p)⟩
 | N+1=>(bound_n raw N).elim fun M h=>⟨max M (raw N).z.natAbs,fun p hp=>(Nat.lt_or_eq_of_le (Nat.le_of_lt_succ hp)).elim (fun q=>qZ (h p q) (Nat.le_max_left _ _)) fun q=>by rw [q];exact Nat.le_max_right _ _⟩
theorem yZD (raw:Nat->Rw) (N:Nat):∃ M:Int,∀ p,p < N->-M<=(raw p).z/\(raw p).z<=M:=(bound_n raw N).elim fun M h=>⟨M,fun p hp=>
 ⟨Int.neg_le_of_neg_le (Int.le_trans Int.le_natAbs (Int.ofNat_le.mpr (by rw [Int.natAbs_neg];exact h p hp))),Int.le_trans Int.le_natAbs (Int.ofNat_le.mpr (h p hp))⟩⟩
theorem yXv {n:Nat}:((n:Int).fmod 2=0)↔n % 2=0:=by
 rw [Int.fmod_eq_emod_of_nonneg _ (by decide)]
 exact np14
theorem yAk {N:Nat} {raw:Nat->Rw} {rs:List (Value×List (Addr×Obj))} (hr:Row (fun O=>true) N (fun j y nw=>IsR y (raw j)/\nw=[]) rs):A3 (rs.flatMap (·.2)=[]) ((rs.map (·.1)).length=N) (∀ j,j < N->IsR ((rs.map (·.1)).getD j .none) (raw j)):=by
 obtain ⟨r1,r2,r3⟩:=hr.plain (f:=fun j y=>IsR y (raw j)) fun j y nw q=>q
 rw [yQt] at r2 r3
 rw [length_range] at r2
 refine ⟨r1,r2,fun j hj=>?_⟩
 have hj':j < (rs.map (·.1)).length:=by rw [r2];exact hj
 have z:=r3 j _ (qT hj')
 rw [show (List.range N).getD j 0=j by simp [hj]] at z
 rw [qR,qT hj']
 exact z
section
variable {A:Around} {E:VS} {s:Shared}
theorem yWe {x:Str} {px:Pos} {L R:Addr} {c0:Nat} {vs:List Value} {zs:List Int} {B:Heap} {m:Str->Option Value} {news:List (Addr×Obj)} {h:Heap} {tk:Nat} (hh:A.handled=none) (F:Fr B L h m) (N:News B L h news) (hl:h.get? R=some (listOf vs.toArray c0)) (iv:IntsAre vs zs):
  wpAny (model prog w) A (pyIter (.ref R)) (yJC B L m news prog w A (.Name x px) zs.length (fun j v=>∃ t,v=.int (zs.getD j 0) t) s) E {s with heap:=h,toks:=tk}:=by
 have hv:vs.length=zs.length:=iv.length
 rw [yJN (vs:=vs)] at hl
 refine qL (made_list (tgt:=.Name x px) hh (.inl ⟨_,_,rfl⟩) F N hl) (fun it sa2 hz=>?_) fun _ _ e=>e
 obtain ⟨I,h5,tk5,deps,St,rfl,rfl,F,N,a,b,c,S,d⟩:=hz
 rw [hv] at S
 exact ⟨I,h5,tk5,deps,St,rfl,rfl,F,N,a,b,c,⟨fun s j Q E hj g k=>S.turn s j Q E hj g fun v h' tk' hq=>k v h' tk' (by
  obtain ⟨t,e⟩:=yJo (i:=j) (z:=zs.getD j 0) iv (by rw [qR,qT hj];rfl)
  exact ⟨t,hq.trans (by rw [qR,e];rfl)⟩),S.done,S.iter,fun _ _ _ _ _ _ _ k=>qI k,S.alive,S.frame⟩,d⟩
end
section
variable {A:Around} {E:VS} {s:Shared}
theorem yYs {value slice:PySem.Expr} {R:Addr} {items:Array Value} {k:Int} {v:Value} {u:Tok} {Q:VS} (g:s.heap.IsList R items) (h0:0<=k) (hf:k < 1000) (hx:items[k.toNat]?=some v) (h:Q v s)
  (hs:subscripted slice false (.ref R) (.int k u)=operate [.ref R,.int k u] (getItem (.ref R) (.int k u)):=by with_unfolding_all rfl):
  wpAny (model prog w) A (subscriptTail value slice (.ref R) (.int k u)) Q E s:=
 tail_any g.typeIs slot_list_getitem.lookup (wpAny_getItem_list g h0 (Int.lt_trans hf (by decide)) hx h) hs
end
theorem yXP {vs:List Value} {ns:List Int} (h:IntsAre vs ns) (hne:decide (ns=[])=false):X2 fun z t=>vs.toArray[(0:Int).toNat]?=some (Value.int z t):=by
 cases h with
 | nil=>simp at hne
 | cons z t r=>exact ⟨z,t,rfl⟩
def IntQ (s:Shared) (h:Heap) (v:Value) (s':Shared):Prop:=X3 fun tk p tp=>v=.int p tp/\s'={s with heap:=h,toks:=tk}
def JO (L D:Addr) (N:Nat) (wish:Int) (tz tw:Tok) (RR:List (Addr×Obj)) (_:Nat) (m':Str->Option Value) (news:List (Addr×Obj)):Prop:=
 X4 fun (oc':Nat->Obj) (dat':Nat->Option Value) ps' yQn=>A6 (news=C5 L oc'++(129,tabObj ps')::(yQn++RR)) (∀ i,i < 5->(oc' i).data=.cell (dat' i)) (yVm ps' yQn) (dat' 4=some (.ref D)) (m' (Str.ofString "size")=some (.int (N:Int) tz)) (m' (Str.ofString "wish")=some (.int wish tw))
namespace K_law_body
def zP (A:Around) (s:Shared) (b:Heap) (E:VS) (L fa S:Addr) (vs:List Value) (ns:List Int) (m0:Str->Option Value) (oc:Nat->Obj) (QF:Flow->Shared->Prop):Prop:=∀ (hd:A.depth<=495) (hu:A.units<=460) (hA:A.handled=none) (hfr:A.frames=some [envW L fa]) (X:(hd01.heap_1 w.params).In b) (T:Top p loose yQv mg mb b) (C:CodeHd b 131 129) (S0:LS b s.heap L m0 oc (fun O=>none) #[] [] []) (e_s:m0 (Str.ofString "script")=some (.ref S)) (hS:b.IsList S vs.toArray) (hI:IntsAre vs ns) (hn:ns.length<=63) (h:∀ h' tk m' ps',Fr b L h' m'->h'.get? 129=some (tabObj ps')->QF (.ret (.bool true)) {s with heap:=h',toks:=tk}),
  wpAny (model prog w) A (execs yWO (envW L fa)) QF E s
def zc:=ep (U12 zP) ⟨({},(start default).1,default,fun O O=>True,0,0,0,[],[],fun O=>none,fun O=>default,fun O O=>True)⟩
def zd1:=zc.2.2.2.2.2.2.2.2
def A:=zc.1
def s:=zc.2.1
def b:=zc.2.2.1
def E:=zc.2.2.2.1
def L:=zc.2.2.2.2.1
def S:=zc.2.2.2.2.2.2.1
def vs:=zc.2.2.2.2.2.2.2.1
def ns:=zd1.1
def m0:=zd1.2.1
def oc:=zd1.2.2.1
theorem zh:zP A s b E L zc.2.2.2.2.2.1 S vs ns m0 oc zd1.2.2.2:=by
 intro hd hu hA hfr X T C S0 e_s hS hI hn h
 conv in yWO=>whnf
 have F:=S0.fr
 have N0:=S0.nw
 walk_at "rJ"
 refine wpAny_Assign_Name (src_list (L:=L) (m:=m0) (B:=b) (n:=(lawNs ns).length) (V:=fun j v=>∃ t,v=.int ((lawNs ns).getD j 0) t) (news:=C5 L oc++(129,tabObj #[])::([]++[])) (cl:=[]) (Nm:=NmV "x" _) (fun O=>true) (fun j y nw=>IsR y (lawRaw ns j)/\nw=[]) (by kernel_rfl) (by decide +kernel) (by decide +kernel) (by intro _;rfl) (qZ (law_len hn) (by decide)) (by rfl) ?_ (stores_name (by rfl) (by rfl)) yQo ?_ ?_) (by kernel_rfl)
 ·show wpAny _ _ _ _ _ _
  (repeat' first | (k_unfold;try dsimp only) | ((fail_if_success (with_reducible refine stp 0x21ffe0000008 (by constructor) ?_ ?_);decide);walk_at "s"))
  ·rename_i he D2 h2 l2 D3 w3 h3 F3 N3 hI3 l3
   have e:lawNs ns=ns.drop 1++[42,50,15,2,90]:=by unfold lawNs;rw [qN (yXv.mp he)]
   rw [e]
   exact yWe hA F3 (fun q hq=>N3 q (.tail _ (.tail _ (.tail _ hq)))) (N3 _ (.head _)).1 hI3
  ·rename_i he D2 h2 l2 D3 w3 h3 F3 N3 hI3 l3
   have e:lawNs ns=ns.drop 1++[]:=by unfold lawNs;rw [qM fun z=>he (yXv.mpr z)]
   rw [e]
   exact yWe hA F3 (fun q hq=>N3 q (.tail _ (.tail _ (.tail _ hq)))) (N3 _ (.head _)).1 hI3
 ·intro j h ma3 tk E' C hj _ hn hnm hG
  obtain ⟨v,⟨t,rfl⟩,hv1⟩:=hnm
  have hB:=hG.1
  have XB:=X.keeps hB
  walk_at "rJ"
  refine yBD (b:=h) (qZ hd (by decide)) (qZ hu (by decide)) hA (fun _ _ q=>q) (by exact vC _) (X.keeps hB) (T.keeps hB) ?_
  intro v h' tk' st' hv'
  exact yZN.of rfl st' ⟨hv',rfl⟩
 intro D h8 tk8 rs hr hm
 obtain ⟨F8,⟨c8,N8⟩,_⟩:=hm
 obtain ⟨r1,hvs,hv⟩:=yAk hr
 rw [r1] at N8
 generalize rs.map (·.1)=vr at *
 clear hr r1
 have hN:(lawNs ns).length < 128:=vR (law_len hn) (by decide)
 obtain ⟨M,hM⟩:=yZD (lawRaw ns) (lawNs ns).length
 refine (S0.grow (xs:=[(D,listOf vr.toArray c8)]) F8 (fun q hq=>N8 q hq) (fun q hq=>by rw [qC.mp hq];exact yQe)).set (i:=4) (by decide) fun h9 o9 S9 _=>?_
 clear F8 N8 F N0
 generalize setA oc 4 o9=oc9 at S9
 obtain ⟨dat9,d94,S9⟩:∃ dat9:Nat->Option Value,dat9 4=some (.ref D)/\LS b h9 L m0 oc9 dat9 #[] [] ([(D,listOf vr.toArray c8)]++[]):=⟨_,rfl,S9⟩
 have F9:=S9.fr
 have N9:=S9.nw
 walk_at "rJ"
 refine LS.get (i:=4) (by exact S9) (by decide) d94 ?_
 walk_at "rJ"
 refine Calls.call_len_list (qW (n:=c8) (S9.at (.head _))) (by simp [hvs];lia) ?_
 rw [show vr.toArray.size=(lawNs ns).length by simp [hvs]]
 (repeat' first | (k_unfold;try dsimp only) | ((fail_if_success (with_reducible refine stp 0x67fffedffd0f (by constructor) ?_ ?_);decide);walk_at "s"))
 rename_i h10 F10 N10
 have S10:=S9.same F10 N10
 clear F10 N10
 obtain ⟨m10,tz,tw0,S10,e_s,e_z,e_w⟩:X3 fun m10 tz tw0=>A4 (LS b h10 L m10 oc9 dat9 #[] [] ([(D,listOf vr.toArray c8)]++[])) (m10 (Str.ofString "script")=some (.ref S)) (m10 (Str.ofString "size")=some (.int ((lawNs ns).length:Int) tz)) (m10 (Str.ofString "wish")=some (.int 2 tw0)):=⟨_,_,_,S10,e_s,rfl,rfl⟩
 refine qL (Q:=fun f s'=>f=.next/\X5 fun h tk m wish tw=>A4 (s'={s with heap:=h,toks:=tk}) (LS b h L m oc9 dat9 #[] [] ([(D,listOf vr.toArray c8)]++[])) (m (Str.ofString "size")=some (.int ((lawNs ns).length:Int) tz)) (m (Str.ofString "wish")=some (.int wish tw))) ?_ ?_ (fun _ _ e=>e)
 ·have F10:=S10.fr
  have N10:=S10.nw
  have hS10:h10.IsList S vs.toArray:=hS.imp fun o q=>⟨F10.keep _ _ q.1,q.2⟩
  walk_at "rJ"
  rename_i R3 h3 F3 N3 l3
  have S3:=S10.grow (xs:=[(R3,listOf #[] 0)]) F3 N3 (fun q hq=>by rw [qC.mp hq];exact yQe)
  have hS3:h3.IsList S vs.toArray:=hS.imp fun o q=>⟨F3.keep _ _ q.1,q.2⟩
  refine ke_ne_ints (xs:=vs) (ys:=[]) hS3 (qW (n:=0) (N3 _ (.head _)).1) hI .nil (by show A.units+64 < cLine;simp [cLine];exact (jl2 [_] 0xf00001ccd0fa0000040d000026acd hu)) ?_
  have SL:=S3.less (xs:=[(D,listOf vr.toArray c8)]++[]) fun q hq=>.tail _ hq
  walk_at "rJ"
  ·exact ⟨h3,_,m10,_,_,rfl,SL,e_z,e_w⟩
  ·rename_i hne
   obtain ⟨z,t,hz⟩:=yXP hI hne
   refine qL (Q:=IntQ s h3) ?_ ?_ (fun _ _ e=>e)
   ·walk_at "rI"
    refine yYs hS3 (by decide) (by decide) hz ?_
    walk_at "rI"
    all_goals refine yYs hS3 (by decide) (by decide) hz ?_
    all_goals walk_at "rI"
    all_goals exact ⟨_,_,_,rfl,rfl⟩
   ·rintro v s' ⟨tk,p,tp,rfl,rfl⟩
    walk_at "rJ"
    rename_i h5 F5 N5
    exact ⟨h5,_,_,_,_,rfl,SL.same F5 (fun q hq=>N5 q (.tail _ hq)),e_z,rfl⟩
 rintro fl s' ⟨rfl,h14,tk14,m14,wish,tw,rfl,S14,e_z,e_w⟩
 dsimp only
 have F14:=S14.fr
 have N14:=S14.nw
 walk_at "rJ"
 refine wpAny_For ?_
 walk_at "rJ"
 rename_i WT h5 F5 N5 l5
 obtain ⟨oW,hoW,N5⟩:∃ oW,(oW.cls=.type "tuple"/\oW.data=.seq #[.bool false,.bool true] 0)/\News b L h5 ((WT,oW)::(C5 L oc9++(129,tabObj #[])::([]++([(D,listOf vr.toArray c8)]++[])))):=⟨_,⟨rfl,rfl⟩,N5⟩
 have hRR:∀ q∈(WT,oW)::([(D,listOf vr.toArray c8)]++[]),Cln q/\q.2.cls≠.type "list_iterator":=fun q hq=>by
  rcases qG.mp hq with rfl | hq
  ·exact ⟨⟨fun v z=>(by have z:=hoW.2.symm.trans z;cases z),fun z=>(by have z:=hoW.1.symm.trans z;cases z)⟩,fun z=>absurd (hoW.1.symm.trans z) (by decide)⟩
  rw [qC.mp hq]
  exact ⟨yQe,fun z=>by simp [W.listOf] at z⟩
 refine yWn (s:=s) (oR:=oW) (nR:=0) (J:=JO L D (lawNs ns).length wish tz tw ((WT,oW)::([(D,listOf vr.toArray c8)]++[]))) hA F5 (news0:=C5 L oc9++(129,tabObj #[])::([]++((WT,oW)::([(D,listOf vr.toArray c8)]++[])))) (fun q hq=>N5 q (by
   simp only [qG,qF] at hq ⊢
   rcases hq with q | q | q | q | q
   ·exact .inr (.inl q)
   ·exact .inr (.inr (.inl q))
   ·exact .inr (.inr (.inr (.inl q)))
   ·exact .inl q
   ·exact .inr (.inr (.inr (.inr q))))) ⟨_,dat9,#[],[],rfl,S14.cl,S14.tb,d94,e_z,e_w⟩ hoW (fun j m news hJ=>?_) (fun I s j v Q E hv hit k=>qI k) ?_ ?_
 ·obtain ⟨_,_,_,_,rfl,_⟩:=hJ
  exact qB _ (.tail _ (qB _ (.head _)))
 ·intro I j h6 tk6 m6 news v o hvj hJ F6 N6 ho off
  obtain ⟨oc6,dat6,ps6,cds6,rfl,c6,tb6,d64,z6,w6⟩:=hJ
  obtain ⟨dn,rfl⟩:∃ dn,v=.bool dn:=by
   rcases j with _ | _ | j
   ·exact ⟨_,(wD hvj).symm⟩
   ·exact ⟨_,(wD hvj).symm⟩
   ·simp at hvj
  have S6:LS b h6 L m6 oc6 dat6 ps6 cds6 ((I,o)::((WT,oW)::([(D,listOf vr.toArray c8)]++[]))):=⟨F6,fun q hq=>N6 q (by
   simp only [qG,qF] at hq ⊢
   rcases hq with q | q | q | q | q
   ·exact .inr (.inl q)
   ·exact .inr (.inr (.inl q))
   ·exact .inr (.inr (.inr (.inl q)))
   ·exact .inl q
   ·exact .inr (.inr (.inr (.inr q)))),c6,tb6,fun q hq=>by
    rcases qG.mp hq with rfl | hq
    ·exact yAR ho
    ·exact (hRR q hq).1,S0.lt⟩
  clear F6 N6
  have F6:=S6.fr
  have N6:=S6.nw
  (repeat' first | (k_unfold;try dsimp only) | ((fail_if_success (with_reducible refine stp 0x1000000000f1 (by constructor) ?_ ?_);decide);walk_at "s"))
  rename_i h7 F7 N7
  have S7:=S6.same F7 N7
  refine yXH (RWS:=D) (raw:=lawRaw ns) (M:=M) (wish:=wish) (dn:=dn) (tz:=tz) (tw:=tw) hd hu hA hfr X T C S7 (.tail _ (.tail _ (.head _))) d64 hvs hN hv (fun p hp _=>hM p hp) (fun q hq=>by
   rcases qG.mp hq with rfl | hq
   ·exact fun z=>absurd (ho.1.symm.trans z) (by decide)
   ·exact (hRR q hq).2) (by exact z6) (by exact w6) (by rfl) ?_
  rintro h8 tk8 m8 oc8 dat8 ps8 cds8 ⟨S8,d84,z8,w8⟩
  refine ⟨h8,tk8,m8,C5 L oc8++(129,tabObj ps8)::(cds8++((WT,oW)::([(D,listOf vr.toArray c8)]++[]))),o,rfl,⟨oc8,dat8,ps8,cds8,rfl,S8.cl,S8.tb,d84.trans d64,z8.trans z6,w8.trans w6⟩,S8.fr,fun q hq=>S8.nw q (by
   simp only [qG,qF] at hq ⊢
   rcases hq with q | q | q | q | q
   ·exact .inr (.inr (.inr (.inl q)))
   ·exact .inl q
   ·exact .inr (.inl q)
   ·exact .inr (.inr (.inl q))
   ·exact .inr (.inr (.inr (.inr q)))),ho,fun q hq=>?_⟩
  have mI:=S8.mem (q:=(I,o)) (.head _)
  rcases qF.mp hq with hc | hq
  ·obtain ⟨i,hi,rfl⟩:=yXZ hc
   refine led_ne S8.nw (qY _ hc) mI fun z=>?_
   have h5:=S8.cl i hi
   dsimp only at z
   rw [z] at h5
   exact absurd (ho.2.symm.trans h5) (fun z=>by cases z)
  rcases qG.mp hq with rfl | hq
  ·exact led_ne S8.nw (qB _ (.head _)) mI fun z=>absurd (ho.1.symm.trans (wE Obj.cls z).symm) (fun z=>by cases z)
  rcases qF.mp hq with hq | hq
  ·refine led_ne S8.nw (qB _ (.tail _ (qY _ hq))) mI fun z=>?_
   obtain ⟨_,_,_,hf,hv⟩:=S8.tb.code q hq
   rw [z] at hf
   have hf:=(Data.fields.inj (ho.2.symm.trans hf)).symm;subst hf;simp at hv
  ·exact off q (qB _ (.tail _ (qB _ hq)))
 ·intro h6 tk6 m6 news hJ F6 N6
  obtain ⟨oc6,dat6,ps6,cds6,rfl,c6,tb6,_,_,_⟩:=hJ
  walk_at "rJ"
  exact h h6 _ m6 ps6 F6 (N6 (129,tabObj ps6) (qB _ (.head _))).1
end K_law_body
theorem yAt {A s b E L fa S vs ns m0 oc QF}:K_law_body.zP A s b E L fa S vs ns m0 oc QF:=eps (P:=U12 K_law_body.zP) K_law_body.zh (A,s,b,E,L,fa,S,vs,ns,m0,oc,QF)
noncomputable def yCH (a b c d e:Obj):Nat->Obj
 | 0=>a
 | 1=>b
 | 2=>c
 | 3=>d
 | _=>e
set_option maxHeartbeats 40000000 in
theorem yDw:gR.1 w sA mg mb:=by
 intro sa1 G Y fa o pm cd doc dV kV ho hd hcd hD hmg hg args vals as hpre hlay hrd hwl hlo
 have KX:=km_in_of Y
 km_tabs Y
 have X:=(Ground.X G).1
 have V:=(Ground.X G).2
 refine Ground.open G ?_
 intro T B D TE TW
 try (refine guard_noD D (by decide +kernel) ?_;clear D)
 km_lay T hmg ho hd cd
 clear hmg
 wrow_args hpre hlay hrd hwl hlo
 all_goals (
  first | refine callC_kw (enter_call ?_) | refine enter_call ?_
  w_top on
  kn_posts
  w_call any ho hd hcd hD T F
  clear hd
  kn_ghosts F T
  k_drop
  skip)
 all_goals try k_fold
 rename_i ns hs hlay0 hL1 hr1 hl2 a8 a7 S vs a4 hLs ra w1 r0 hI hr hc1 hc2 ha1 tka1 oR oL oW oT oD dR dL dW dT dD X0 X' T' K' F' N' l0
 refine yBj ?_
 refine qL (Q:=fun f s'=>f=.ret (.bool true)/\GrownAt 129 s'.heap/\X2 fun h' tk=>s'={ sa1 with heap:=h',toks:=tk }/\(ghostOf sa1.heap [(131,129)]).StaysIn h') (E:=fun O O=>False) ?_ ?_ (fun _ _ x=>x.elim)
 ·have dR':oR.data=.cell none:=dR
  have dL':oL.data=.cell none:=dL
  have dW':oW.data=.cell none:=dW
  have dT':oT.data=.cell none:=dT
  have dD':oD.data=.cell none:=dD
  have hn:ns.length<=63:=by omega
  have codeHd':CodeHd (ghostOf sa1.heap [(131,129)]) 131 129:=codeHd
  clear dR dL dW dT dD X0 K' hD hr hc1 hc2 r0 w1 ra hLs a4 a7 a8 hl2 hr1 hL1 hlay0 hs hcd TW TE B T V X ho Y codeHd hT8 hT9
  refine yAt (L:=sa1.heap.objs.size) (b:=ghostOf sa1.heap [(131,129)]) (fa:=fa) (S:=S) (vs:=vs) (ns:=ns) (oc:=yCH oD oT oW oL oR) (by show 1+claimMargin+1<=495;decide) (by show 4+3<=460;decide) rfl rfl X' (to_top T') codeHd' ⟨F',fun q hq=>N' q ?_,fun i hi=>?_,.inl ⟨rfl,rfl⟩,(fun q hq=>nomatch hq),l0⟩ rfl lifted hI hn ?_
  ·simp only [C5,yCH,qF,qG,wG,or_false,false_or] at hq ⊢
   rcases hq with (q | q | q | q | q) | q
   ·exact .inr (.inr (.inr (.inr (.inl q))))
   ·exact .inr (.inr (.inr (.inl q)))
   ·exact .inr (.inr (.inl q))
   ·exact .inr (.inl q)
   ·exact .inl q
   ·exact .inr (.inr (.inr (.inr (.inr q))))
  ·rcases lt5 hi with rfl | rfl | rfl | rfl | rfl
   ·exact dD'
   ·exact dT'
   ·exact dW'
   ·exact dL'
   ·exact dR'
  ·intro h' tk m' ps' Fe ge
   exact ⟨rfl,⟨_,ge⟩,h',_,rfl,Fe.keep⟩
 ·rintro f s' ⟨rfl,hg',h',tk',rfl,st'⟩
  dsimp only
  refine ⟨⟨.inl ⟨_,_,_,rfl,fun O=>rfl,.bool true,(by wrow_post),fun q=>⟨List.nodup_nil,fun a ha=>by simp at ha⟩⟩,st',rfl,hg⟩,hg',trivial⟩
theorem main01:PySem.Challenge.rw_dp0046_01.Holds:=gR.2 fun c1 c2 c3 c4=>eps (P:=U4 gR.1) yDw (c1,c2,c3,c4)

end
end
end Mine.Internal
theorem PySem.Challenge.cw_dp0046_01_holds : PySem.Challenge.rw_dp0046_01.Holds := by
  exact Mine.Internal.main01
