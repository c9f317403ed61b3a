import PyProof.Rows.All
import Wide.All
import OpenK.AllK
import Wide.FinOn
import Lean
import PySem.Challenge.RW_kt0059_01
open PySem PySem.W PyProof.Rows PySem.Calls
set_option Elab.async false
set_option maxRecDepth 100000
set_option maxHeartbeats 4000000
set_option linter.unusedVariables false
set_option linter.unusedSectionVars false
namespace Mine
local macro_rules | `(tactic| walk_at "o") => `(tactic| with_reducible first | assumption | exact Nat.le_trans (by assumption) (by decide) | exact Nat.lt_of_le_of_lt (by assumption) (by decide) | exact Nat.lt_of_lt_of_le (by assumption) (by decide) | exact Nat.le_of_lt (by assumption) | exact Nat.le_of_lt (Nat.lt_of_lt_of_le (by assumption) (by decide)) | exact Nat.le_trans (by decide) (Nat.le_add_left _ _) | exact Nat.zero_le _ | exact Int.natCast_nonneg _ | exact lt63 (by assumption) | exact lt63' (by assumption) | exact Nat.le_refl _ | exact Nat.zero_add _ | decide)
section
theorem c63 {a:Nat} (h:a < 2 ^ 63):(a:Int) < 2 ^ 63:=Int.ofNat_lt.mpr h
theorem Y0:0+1+1+1+1+1+1+0<=16777216+2:=Nat.le_add_left (0+1+1+1+1+1+1+0) 16777212
theorem Y1:0+1+1+1+1+1<=16777216+2:=Nat.le_add_left (0+1+1+1+1+1) 16777213
theorem Y2:0+1=0->False:=fun a=>absurd a (Nat.succ_ne_zero 0)
theorem Y3:0+1<=16777216:=Nat.le_add_left (0+1) 16777215
theorem Y4:0+4=4:=Eq.refl (0+4)
theorem Y5:0<=16777216:=Nat.zero_le 16777216
theorem Y6:1<=100:=Nat.le_add_left 1 99
theorem Y7:1<=1000:=Nat.le_add_left 1 999
theorem Y8:1000<=16777216:=Nat.le_add_left 1000 16776216
theorem Y9:2<=100:=Nat.le_add_left 2 98
theorem Y10:4+4<=100:=Nat.le_add_left (4+4) 92
theorem Y11 {a:Int} {b:Nat}:(↑b:Int)<=a -> -2 ^ 63<=a:=fun h1=>Int.le_trans (Int.le_trans (by decide:(-2 ^ 63:Int)<=0) (Int.natCast_nonneg b)) h1
theorem Y12 {a:Int} {b:Nat}:a < (↑b:Int)->0<=a->a.toNat < b:=fun h1 h2=>(Int.toNat_lt h2).mpr h1
theorem Y13 {a:Int} {b:Nat}:a < (↑b:Int)->a>=0->a.toNat < b:=fun h1 h2=>(Int.toNat_lt h2).mpr h1
theorem Y14 {a:Int} {b:Nat}:a < (↑b:Int)->b<=1000->a < 2 ^ 63:=fun h1 h2=>Int.lt_trans h1 (c63 (Nat.lt_of_le_of_lt h2 (by decide)))
theorem Y15 {a:Int} {b:Nat}:a < 0->a+(↑b:Int)<=(↑b:Int):=fun h1=>Int.le_trans (Int.add_le_add_right (Int.le_of_lt h1) b) (Int.le_of_eq (Int.zero_add _))
theorem Y16 {a:Int} {b:Nat}:a<=a/\a < a+((↑b:Int)+1):=⟨Int.le_refl _,Int.lt_add_of_pos_right _ (Int.lt_add_one_of_le (Int.natCast_nonneg b))⟩
theorem Y17 {a:Int} {b:Nat}:b < 4->a < (↑b:Int)->a < 2 ^ 63:=fun h1 h2=>Int.lt_trans h2 (c63 (Nat.lt_trans h1 (by decide)))
theorem Y18 {a:Int}:(a % 2 ^ 64).toNat < 32 ^ 13:=(Int.toNat_lt' (by decide)).mpr (Int.lt_trans (Int.emod_lt_of_pos a (by decide)) (by decide))
theorem Y19 {a:Int}:0<=a->a=(↑a.toNat:Int):=fun h1=>Int.eq_natCast_toNat.mpr h1
theorem Y20 {a:Int}:0<=a/\a < 2->a=0\/a=1:=by omega
theorem Y21 {a:Int}:0<=a/\a < 3->a=0\/a=1\/a=2:=by omega
theorem Y22 {a:Int}:1<=a->0<=a - 1:=fun h1=>Int.sub_nonneg_of_le h1
theorem Y23 {a:Int}:1<=a->1<=a+1:=fun h1=>Int.le_add_one h1
theorem Y24 {a:Int}:a < 1+100->(a - 1).toNat<=200:=fun h1=>Int.toNat_le.mpr (Int.le_trans (Int.sub_le_self a (by decide)) (Int.le_trans (Int.le_of_lt h1) (by decide)))
theorem Y25 {a:Int}:a < 1+100->2 * (a - 1)<=134217728:=fun h1=>Int.le_trans (Int.mul_le_mul_of_nonneg_left (Int.le_trans (Int.sub_le_self a (by decide)) (Int.le_of_lt h1)) (by decide)) (by decide)
theorem Y26 {a:Int}:a < 3->a.toNat < 3:=fun h1=>(Int.toNat_lt' (by decide)).mpr h1
theorem Y27 {a:Nat} {b:Int}:b < 4->b.toNat=a->(↑a:Int) < 2 ^ 63:=fun h1 h2=>c63 (Nat.lt_trans (h2 ▸ (Int.toNat_lt' (by decide)).mpr h1:a < 4) (by decide))
theorem Y28 {a:Nat}:(-1+(↑(a+1):Int)).toNat=a:=(congrArg Int.toNat ((Int.add_comm _ _).trans (Int.add_neg_cancel_right (a:Int) 1))).trans (Int.toNat_natCast a)
theorem Y29 {a:Nat}:(0 <= -1+((↑a:Int)+1) /\ -1+((↑a:Int)+1) < (↑a:Int)+1)/\(-1+((↑a:Int)+1)).toNat=a:=by rw[show -1+((a:Int)+1)=a from (Int.add_comm _ _).trans (Int.add_neg_cancel_right (a:Int) 1)];exact⟨⟨Int.natCast_nonneg a,Int.lt_succ a⟩,Int.toNat_natCast a⟩
theorem Y30 {a:Nat}:(↑(a+1):Int)=(↑a:Int)+1:=rfl
theorem Y31 {a:Nat}:-(↑(a+1):Int) <= -1:=Int.neg_le_neg (Int.ofNat_le.mpr (Nat.succ_le_succ (Nat.zero_le a)))
theorem Y32 {a:Nat}:0+a=a:=Nat.zero_add a
theorem Y33 {a:Nat}:0+a<=a:=Nat.le_of_eq (Nat.zero_add a)
theorem Y34 {a:Nat}:0<=(↑(a+1):Int):=Int.natCast_nonneg (a+1)
theorem Y35 {a:Nat}:0<=(↑a:Int):=Int.natCast_nonneg a
theorem Y36 {a:Nat}:0<=a+2:=Nat.zero_le (a+2)
theorem Y37 {a:Nat}:0<=a+4:=Nat.zero_le (a+4)
theorem Y38 {a:Nat}:1<=a+1:=Nat.le_add_left 1 a
theorem Y39 {a:Nat}:1<=a+2:=Nat.le_add_left 1 (a+1)
theorem Y40 {a:Nat}:1<=a+4:=Nat.le_add_left 1 (a+3)
theorem Y41 {a:Nat}:100+min 1 a<=400:=Nat.le_trans (Nat.add_le_add_left (Nat.min_le_left 1 a) 100) (by decide)
theorem Y42 {a:Nat}:2<=a+4:=Nat.le_add_left 2 (a+2)
theorem Y43 {a:Nat}:40 < a->a<=1->False:=fun h1 h2=>Nat.lt_irrefl 40 (Nat.lt_of_lt_of_le h1 (Nat.le_trans h2 (Nat.le_add_left 1 39)))
theorem Y44 {a:Nat}:a+0<=400->a<=1000:=fun h1=>Nat.le_trans h1 (Nat.le_add_left 400 600)
theorem Y45 {a:Nat}:a+1+8=a+8+1:=Eq.refl (a+1+8)
theorem Y46 {a:Nat}:a+1<=2->max (a+1) (max (0+1) 0)+1<=100:=fun h1=>Nat.succ_le_of_lt (Nat.lt_of_le_of_lt (Nat.max_le.mpr ⟨h1,by decide⟩) (by decide))
theorem Y47 {a:Nat}:a+1<=600->a < 1000:=fun h1=>Nat.le_trans h1 (Nat.le_add_left 600 400)
theorem Y48 {a:Nat}:a+1<=a->False:=fun h1=>Nat.lt_irrefl a (Nat.lt_of_lt_of_le h1 (Nat.le_trans (Nat.le_add_right a 1) h1))
theorem Y49 {a:Nat}:a+2+1<=a+1+2:=Nat.succ_le_of_lt (Nat.lt_succ_self (a+2))
theorem Y50 {a:Nat}:a+2<=a+2:=Nat.succ_le_of_lt (Nat.lt_succ_self (a+1))
theorem Y51 {a:Nat}:a+4+1<=a+1+4:=Nat.succ_le_of_lt (Nat.lt_succ_self (a+4))
theorem Y52 {a:Nat}:a < 3->(↑a:Int) < 2 ^ 63:=fun h1=>c63 (Nat.le_trans h1 (Nat.le_add_left 3 9223372036854775805))
theorem Y53 {a:Nat}:a < 4->(↑a:Int) < 2 ^ 63:=fun h1=>c63 (Nat.le_trans h1 (Nat.le_add_left 4 9223372036854775804))
theorem Y54 {a:Nat}:a < 4->(↑a:Int).toNat<=200:=fun h1=>Nat.le_of_lt (Nat.le_trans h1 (Nat.le_add_left 4 196))
theorem Y55 {a:Nat}:a < 4->a<=1000:=fun h1=>Nat.le_of_lt (Nat.le_trans h1 (Nat.le_add_left 4 996))
theorem Y56 {a:Nat}:a < 5->(↑a:Int) < 2 ^ 63:=fun h1=>c63 (Nat.le_trans h1 (Nat.le_add_left 5 9223372036854775803))
theorem Y57 {a:Nat}:a < 5->a<=1000:=fun h1=>Nat.le_of_lt (Nat.le_trans h1 (Nat.le_add_left 5 995))
theorem Y58 {a:Nat}:a < 8->8<=a->False:=fun h1 h2=>Nat.lt_irrefl a (Nat.lt_of_lt_of_le h1 h2)
theorem Y59 {a:Nat}:a < 8->a+0<=7:=fun h1=>Nat.le_of_lt_succ (Nat.le_trans h1 (Nat.le_add_left 8 0))
theorem Y60 {a:Nat}:a < a+1:=Nat.lt_succ_self a
theorem Y61 {a:Nat}:a=1->0+1<=a:=fun h1=>Eq.symm h1 ▸ Nat.le_add_left (0+1) 0
theorem Y62 {a:Nat}:a=1->a<=998:=fun h1=>Eq.symm h1 ▸ Nat.le_add_left 1 997
theorem Y63 {a:Nat}:a=1->a<=999:=fun h1=>Eq.symm h1 ▸ Nat.le_add_left 1 998
theorem Y64 {a:Nat}:a=4->2<=a:=fun h1=>Eq.symm h1 ▸ Nat.le_add_left 2 2
theorem Y65 {a:Nat}:a=4->a < 5:=fun h1=>Eq.symm h1 ▸ Nat.lt_succ_self 4
theorem Y66 {a:Nat}:a=4->a < 64:=fun h1=>Eq.symm h1 ▸ by decide
theorem Y67 {a:Nat}:a=4->a<=100:=fun h1=>Eq.symm h1 ▸ Nat.le_add_left 4 96
theorem Y68 {a:Nat}:a=4->a<=1000:=fun h1=>Eq.symm h1 ▸ Nat.le_add_left 4 996
theorem Y69 {a:Nat}:a=a - 0:=rfl
theorem Y70 {a:Nat}:a≠a+1:=Nat.ne_of_lt (Nat.lt_succ_self a)
theorem Y71 {a:Nat}:a<=0->a+1<=1:=fun h1=>Nat.lt_of_le_of_lt h1 (Nat.succ_pos 0)
theorem Y72 {a:Nat}:a<=0->a+1<=100:=fun h1=>Nat.lt_of_le_of_lt h1 (Nat.succ_pos 99)
theorem Y73 {a:Nat}:a<=1->0 < a->a=1:=fun h1 h2=>Nat.le_antisymm h1 (Nat.le_trans (Nat.le_add_left 1 0) h2)
theorem Y74 {a:Nat}:a<=1->a+1<=2:=fun h1=>Nat.lt_of_le_of_lt h1 (Nat.lt_succ_self 1)
theorem Y75 {a:Nat}:a<=1->a<=1:=fun h1=>h1
theorem Y76 {a:Nat}:a<=10->a<=1000:=fun h1=>Nat.le_trans h1 (Nat.le_add_left 10 990)
theorem Y77 {a:Nat}:a<=10->a<=999:=fun h1=>Nat.le_trans h1 (Nat.le_add_left 10 989)
theorem Y78 {a:Nat}:a<=100->100+(a - 1)<=400:=fun h1=>Nat.le_trans (Nat.add_le_add_left (Nat.le_trans (Nat.sub_le a 1) h1) 100) (by decide)
theorem Y79 {a:Nat}:a<=100->a - 1<=1000:=fun h1=>Nat.sub_le_of_le_add (Nat.le_trans h1 (Nat.le_add_left 100 901))
theorem Y80 {a:Nat}:a<=100->a<=1000:=fun h1=>Nat.le_trans h1 (Nat.le_add_left 100 900)
theorem Y81 {a:Nat}:a<=100->a<=996:=fun h1=>Nat.le_trans h1 (Nat.le_add_left 100 896)
theorem Y82 {a:Nat}:a<=100->a<=997:=fun h1=>Nat.le_trans h1 (Nat.le_add_left 100 897)
theorem Y83 {a:Nat}:a<=100->a<=998:=fun h1=>Nat.le_trans h1 (Nat.le_add_left 100 898)
theorem Y84 {a:Nat}:a<=1000->(↑2:Int) * (↑a:Int)<=2 ^ 27:=fun h1=>Int.le_trans (Int.mul_le_mul_of_nonneg_left (Int.ofNat_le.mpr h1) (by decide)) (by decide)
theorem Y85 {a:Nat}:a<=1000->(↑a:Int) < 2 ^ 63:=fun h1=>c63 (Nat.lt_of_le_of_lt h1 (by decide))
theorem Y86 {a:Nat}:a<=1000->(↑a:Int) < 9223372036854775808/\(a=0\/(↑a:Int) < 9223372036854775808):=fun h1=>have h:=Int.lt_of_le_of_lt (Int.ofNat_le.mpr h1) (by decide);⟨h,.inr h⟩
theorem Y87 {a:Nat}:a<=1000->0+a<=16777216+1:=fun h1=>Nat.le_add_right_of_le (Nat.add_le_add (Nat.zero_le 16776216) h1)
theorem Y88 {a:Nat}:a<=1000->a+1 < 4096:=fun h1=>Nat.lt_succ_of_le (Nat.lt_of_le_of_lt h1 (by decide))
theorem Y89 {a:Nat}:a<=1000->a<=16777216:=fun h1=>Nat.le_trans h1 (Nat.le_add_left 1000 16776216)
theorem Y90 {a:Nat}:a<=1000->¬(↑a:Int)>=2 ^ 63:=fun h1=>Int.not_le.mpr (c63 (Nat.lt_of_le_of_lt h1 (by decide)))
theorem Y91 {a:Nat}:a<=12->a+1<=100:=fun h1=>Nat.lt_of_le_of_lt h1 (by decide)
theorem Y92 {a:Nat}:a<=12->a<=1000:=fun h1=>Nat.le_trans h1 (Nat.le_add_left 12 988)
theorem Y93 {a:Nat}:a<=16->0+a * 25<=900:=fun h1=>Nat.le_trans (Nat.le_of_eq (Nat.zero_add _)) (Nat.le_trans (Nat.mul_le_mul_right 25 h1) (by decide))
theorem Y94 {a:Nat}:a<=2->a<=1000:=fun h1=>Nat.le_trans h1 (Nat.le_add_left 2 998)
theorem Y95 {a:Nat}:a<=200->a / 30<=299:=fun h1=>Nat.le_trans (Nat.div_le_self a 30) (Nat.le_trans h1 (by decide))
theorem Y96 {a:Nat}:a<=200->a<=1000:=fun h1=>Nat.le_trans h1 (Nat.le_add_left 200 800)
theorem Y97 {a:Nat}:a<=3->a+0<=7:=fun h1=>Nat.le_trans h1 (Nat.le_add_left 3 4)
theorem Y98 {a:Nat}:a<=3->a+1<=16777216:=fun h1=>Nat.lt_of_le_of_lt h1 (by decide)
theorem Y99 {a:Nat}:a<=3->¬(a+1+0) * 5>=7 * 3:=fun h1=>Nat.not_le.mpr (Nat.lt_of_le_of_lt (Nat.mul_le_mul_right 5 (Nat.succ_le_succ h1)) (by decide))
theorem Y100 {a:Nat}:a<=300->a+1+5<=400:=fun h1=>Nat.add_le_add (Nat.lt_of_le_of_lt h1 (by decide)) (Nat.le_refl 5)
theorem Y101 {a:Nat}:a<=300->a<=1000:=fun h1=>Nat.le_trans h1 (Nat.le_add_left 300 700)
theorem Y102 {a:Nat}:a<=4->a < 5:=fun h1=>Nat.lt_of_le_of_lt h1 (Nat.lt_succ_self 4)
theorem Y103 {a:Nat}:a<=4->a<=10:=fun h1=>Nat.le_trans h1 (Nat.le_add_left 4 6)
theorem Y104 {a:Nat}:a<=4->a<=100:=fun h1=>Nat.le_trans h1 (Nat.le_add_left 4 96)
theorem Y105 {a:Nat}:a<=4->a<=1000:=fun h1=>Nat.le_trans h1 (Nat.le_add_left 4 996)
theorem Y106 {a:Nat}:a<=4->a<=999:=fun h1=>Nat.le_trans h1 (Nat.le_add_left 4 995)
theorem Y107 {a:Nat}:a<=a+1:=Nat.le_add_right a 1
theorem Y108 {a:Nat}:¬(↑63:Int) < (↑a:Int)->a<=1000:=fun h1=>Nat.le_trans (Int.ofNat_le.mp (Int.not_lt.mp h1)) (by decide)
theorem Y109 {a:Nat}:¬a+9<=7:=Nat.not_lt.mpr (Nat.le_add_left 7 (a+1))
theorem Y110 {a:Nat}:¬a < 0:=Nat.not_lt.mpr (Nat.zero_le a)
theorem Y111 {a:Nat}:¬a < a:=Nat.not_lt.mpr (Nat.le_of_lt_succ (Nat.lt_succ_self a))
theorem Y112 {a:Nat}:¬a<=1->1 < a:=fun h1=>Nat.not_le.mp h1
theorem Y113 {a b:Int} {c:Nat}:1<=b/\b < 1+(↑100:Int)->a+1<=b/\b < a+1+(↑c:Int)->a+1 < 1+100:=fun h1 h2=>Int.lt_of_le_of_lt h2.1 h1.2
theorem Y114 {a b:Int} {c:Nat}:a+1<=b/\b < a+1+(↑c:Int)->a<=b/\b < a+((↑c:Int)+1):=fun h1=>⟨Int.le_of_lt h1.1,Int.lt_of_lt_of_le h1.2 (Int.le_of_eq ((Int.add_assoc a 1 c).trans (congrArg _ (Int.add_comm 1 c))))⟩
theorem Y115 {a b:Nat} {c:Int}:b=4->c < 4->c.toNat=a->a < b:=fun h1 h2 h3=>h1 ▸ h3 ▸ (Int.toNat_lt' (by decide)).mpr h2
theorem Y116 {a b:Nat}:(↑(a / b % 2):Int)=1 ↔ a / b % 2=1:=@Int.ofNat_inj (a / b % 2) 1
theorem Y117 {a b:Nat}:(↑a:Int) - (↑(b+1):Int)=(↑a:Int) - (↑b:Int) - 1:=(Int.sub_sub (a:Int) b 1).symm
theorem Y118 {a b:Nat}:(↑a:Int)<=(↑b:Int)->a<=b:=fun h1=>Int.ofNat_le.mp h1
theorem Y119 {a b:Nat}:2<=b->a=b->0 < a:=by intro h1 h2;subst h2;exact Nat.le_of_lt h1
theorem Y120 {a b:Nat}:a+(b+1)=16->a+1+b=16:=fun h1=>(Nat.add_right_comm a 1 b).trans h1
theorem Y121 {a b:Nat}:a+(b+1)=4->a+1+b=4:=fun h1=>(Nat.add_right_comm a 1 b).trans h1
theorem Y122 {a b:Nat}:a+(b+1)=4->a < 4:=fun h1=>Nat.lt_of_lt_of_le (Nat.lt_add_of_pos_right (Nat.succ_pos b)) (Nat.le_of_eq h1)
theorem Y123 {a b:Nat}:a+(b+1)=5->a+1+b=5:=fun h1=>(Nat.add_right_comm a 1 b).trans h1
theorem Y124 {a b:Nat}:a+(b+1)=5->a < 5:=fun h1=>Nat.lt_of_lt_of_le (Nat.lt_add_of_pos_right (Nat.succ_pos b)) (Nat.le_of_eq h1)
theorem Y125 {a b:Nat}:a+(b+1)=a+1+b:=(Nat.add_right_comm a 1 b).symm
theorem Y126 {a b:Nat}:a+(b+1)<=4->a<=4:=fun h1=>Nat.le_trans (Nat.le_add_right a (b+1)) h1
theorem Y127 {a b:Nat}:a+(b+1)<=400->a+1+b<=400:=fun h1=>Nat.le_trans (Nat.le_of_eq (Nat.add_right_comm a 1 b)) h1
theorem Y128 {a b:Nat}:a+(b+1)<=400->a<=1000:=fun h1=>Nat.le_of_add_le_add_right (Nat.le_trans h1 (Nat.le_add_right_of_le (Nat.le_add_left 400 600)))
theorem Y129 {a b:Nat}:a+(b+1)<=450->a+1+b<=450:=fun h1=>Nat.le_trans (Nat.le_of_eq (Nat.add_right_comm a 1 b)) h1
theorem Y130 {a b:Nat}:a+(b+1)<=600->a+1+b<=600:=fun h1=>Nat.le_trans (Nat.le_of_eq (Nat.add_right_comm a 1 b)) h1
theorem Y131 {a b:Nat}:a+0=b->a=b:=fun h1=>Eq.trans h1 (Eq.refl b)
theorem Y132 {a b:Nat}:a+1 < b+1->a < b:=fun h1=>Nat.le_of_lt_succ h1
theorem Y133 {a b:Nat}:a+1 < b->a+1<=b:=fun h1=>Nat.lt_of_le_of_lt (Nat.le_add_right a 1) h1
theorem Y134 {a b:Nat}:a+1<=b+1->a<=b:=fun h1=>Nat.le_of_succ_le_succ h1
theorem Y135 {a b:Nat}:a+2 * (b+1)<=300->a+2+2 * b<=300:=fun h1=>Nat.le_trans (Nat.le_of_eq (Nat.add_right_comm a 2 (2 * b))) h1
theorem Y136 {a b:Nat}:a+2 * b<=300->a<=1000:=fun h1=>Nat.le_of_add_le_add_right (Nat.le_trans h1 (Nat.le_add_right_of_le (Nat.le_add_left 300 700)))
theorem Y137 {a b:Nat}:a+2 * b<=300->a<=300:=fun h1=>Nat.le_trans (Nat.le_add_right a (2 * b)) h1
theorem Y138 {a b:Nat}:a+20 * (b+1)<=6000->a+1+20 * b<=6000:=fun h1=>Nat.le_trans (Nat.le_trans (Nat.add_le_add_right (Nat.add_le_add_left (by decide:1<=20) a) (20 * b)) (Nat.le_of_eq (Nat.add_right_comm a 20 (20 * b)))) h1
theorem Y139 {a b:Nat}:a+20 * (b+1)<=6000->a+3+20 * b<=6000:=fun h1=>Nat.le_trans (Nat.le_trans (Nat.add_le_add_right (Nat.add_le_add_left (by decide:3<=20) a) (20 * b)) (Nat.le_of_eq (Nat.add_right_comm a 20 (20 * b)))) h1
theorem Y140 {a b:Nat}:a+20 * b<=6000->a+3000 < 9900:=fun h1=>Nat.lt_of_le_of_lt (Nat.add_le_add_right (Nat.le_trans (Nat.le_add_right a (20 * b)) h1) 3000) (by decide)
theorem Y141 {a b:Nat}:a+3 < b->a < b:=fun h1=>Nat.lt_of_le_of_lt (Nat.le_add_right a 3) h1
theorem Y142 {a b:Nat}:a+3000 < b->a+1+2 < b:=fun h1=>Nat.lt_of_le_of_lt (Nat.add_lt_add_left (by decide) a) h1
theorem Y143 {a b:Nat}:a+3000 < b->a+3 < b:=fun h1=>Nat.lt_of_le_of_lt (Nat.add_le_add (Nat.le_refl a) (Nat.le_add_left 3 2997)) h1
theorem Y144 {a b:Nat}:a+b<=400->a+1+b<=450:=fun h1=>Nat.le_trans (Nat.le_of_eq (Nat.add_right_comm a 1 b)) (Nat.le_trans (Nat.succ_le_succ h1) (by decide))
theorem Y145 {a b:Nat}:a+b<=600->a < 1000:=fun h1=>Nat.lt_of_le_of_lt (Nat.le_add_right a b) (Nat.lt_of_le_of_lt h1 (by decide))
theorem Y146 {a b:Nat}:a+b<=a+b:=Nat.le_of_lt_succ (Nat.lt_succ_self (a+b))
theorem Y147 {a b:Nat}:a+b<=b+a:=Nat.le_of_eq (Nat.add_comm a b)
theorem Y148 {a b:Nat}:a - 0+(b - 0)<=a+b:=Nat.add_le_add (Nat.sub_le a 0) (Nat.le_refl (b - 0))
theorem Y149 {a b:Nat}:a - b<=a - b:=Nat.le_of_lt_succ (Nat.lt_succ_self (a - b))
theorem Y150 {a b:Nat}:a < b * 32->a < b * 32:=fun h1=>h1
theorem Y151 {a b:Nat}:a < b->(↑a:Int) < (↑b:Int):=fun h1=>Int.ofNat_lt.mpr h1
theorem Y152 {a b:Nat}:a < b->a+1<=b:=fun h1=>Nat.lt_of_lt_of_le (Nat.lt_succ_self a) h1
theorem Y153 {a b:Nat}:a < b->a < b+1:=fun h1=>Nat.le_trans h1 (Nat.le_add_right b 1)
theorem Y154 {a b:Nat}:a < b->a<=b:=fun h1=>Nat.le_of_lt h1
theorem Y155 {a b:Nat}:a < b->b<=100->a<=1000:=fun h1 h2=>Nat.le_of_lt (Nat.lt_of_lt_of_le h1 (Nat.le_trans h2 (by decide)))
theorem Y156 {a b:Nat}:a < b->b<=a->False:=fun h1 h2=>Nat.lt_irrefl a (Nat.lt_of_lt_of_le h1 h2)
theorem Y157 {a b:Nat}:a=b+1->0 < a:=fun h1=>Eq.symm h1 ▸ Nat.succ_pos b
theorem Y158 {a b:Nat}:a=b+1->a - 1=b:=by intro h1;subst h1;rfl
theorem Y159 {a b:Nat}:a=b->b<=3->a < 8:=fun h1 h2=>Nat.lt_of_le_of_lt (h1 ▸ h2) (by decide)
theorem Y160 {a b:Nat}:a<=0->a<=b:=fun h1=>Nat.le_trans h1 (Nat.zero_le b)
theorem Y161 {a b:Nat}:a<=100->a<=1000+b:=fun h1=>Nat.le_trans h1 (Nat.le_add_right_of_le (Nat.le_add_left 100 900))
theorem Y162 {a b:Nat}:a<=1000->b<=1000->a+b<=16777216:=fun h1 h2=>Nat.add_le_add (Nat.le_trans h1 (Nat.le_add_left 1000 16775216)) h2
theorem Y163 {a b:Nat}:a<=1000->b<=1000->a+b<=16777216+1:=fun h1 h2=>Nat.le_trans (Nat.add_le_add h1 h2) (by decide)
theorem Y164 {a b:Nat}:a<=1000->b<=1000->¬a+b > 16777216:=fun h1 h2=>Nat.not_lt.mpr (Nat.le_trans (Nat.add_le_add h1 h2) (by decide))
theorem Y165 {a b:Nat}:a<=4->b<=4->4+(a+b)<=12:=fun h1 h2=>Nat.add_le_add_left (Nat.add_le_add h1 h2) 4
theorem Y166 {a b:Nat}:a<=4->b<=4->a+b<=1000:=fun h1 h2=>Nat.add_le_add (Nat.le_trans h1 (Nat.le_add_left 4 992)) h2
theorem Y167 {a b:Nat}:a<=a+b:=Nat.le_add_right a b
theorem Y168 {a b:Nat}:a<=b+1->(↑a:Int)<=(↑b:Int)+1:=fun h1=>Int.ofNat_le.mpr h1
theorem Y169 {a b:Nat}:a<=b+1->a<=b+1:=fun h1=>h1
theorem Y170 {a b:Nat}:a<=b - 1->0 < b->a+1<=b:=fun h1 h2=>Nat.add_le_of_le_sub h2 h1
theorem Y171 {a b:Nat}:a<=b->(↑a:Int) - (↑b:Int)<=0:=fun h1=>Int.sub_nonpos_of_le (Int.ofNat_le.mpr h1)
theorem Y172 {a b:Nat}:a<=b->(↑a:Int)<=(↑b:Int):=fun h1=>Int.ofNat_le.mpr h1
theorem Y173 {a b:Nat}:a<=b->a+1<=b+1:=fun h1=>Nat.lt_of_le_of_lt h1 (Nat.lt_succ_self b)
theorem Y174 {a b:Nat}:a<=b->a<=b:=fun h1=>h1
theorem Y175 {a b:Nat}:a<=b->a<=b+1:=fun h1=>Nat.le_trans h1 (Nat.le_add_right b 1)
theorem Y176 {a b:Nat}:a<=b->b<=100->(↑(a+1):Int) < 2 ^ 63:=fun h1 h2=>c63 (Nat.lt_of_le_of_lt (Nat.succ_le_succ (Nat.le_trans h1 h2)) (by decide))
theorem Y177 {a b:Nat}:a<=b->b<=100->a+1<=1000:=fun h1 h2=>Nat.lt_of_le_of_lt h1 (Nat.lt_of_le_of_lt h2 (by decide))
theorem Y178 {a b:Nat}:a<=b->b<=100->a<=1000:=fun h1 h2=>Nat.le_trans h1 (Nat.le_trans h2 (Nat.le_add_left 100 900))
theorem Y179 {a b:Nat}:a<=b->b<=4->a < 5:=fun h1 h2=>Nat.lt_of_le_of_lt h1 (Nat.lt_of_le_of_lt h2 (Nat.lt_succ_self 4))
theorem Y180 {a b:Nat}:a<=b->¬a < b->a=b:=fun h1 h2=>Nat.le_antisymm h1 (Nat.not_lt.mp h2)
theorem Y181 {a b:Nat}:b+1<=a->a=a - 1+1:=fun h1=>(Nat.sub_add_cancel (Nat.le_trans (Nat.le_add_left 1 b) h1)).symm
theorem Y182 {a b:Nat}:b+a<=400->a<=1000:=fun h1=>Nat.le_trans (Nat.le_add_left a b) (Nat.le_trans h1 (by decide))
theorem Y183 {a b:Nat}:b < 220->a < b->a < 220:=fun h1 h2=>Nat.lt_of_le_of_lt (Nat.le_of_lt h2) h1
theorem Y184 {a b:Nat}:b < 4->a<=b->a<=1000:=fun h1 h2=>Nat.le_trans h2 (Nat.le_trans (Nat.le_of_lt h1) (by decide))
theorem Y185 {a b:Nat}:b < a->0 < (↑a:Int) - (↑b:Int):=fun h1=>Int.sub_pos_of_lt (Int.ofNat_lt.mpr h1)
theorem Y186 {a b:Nat}:b=1->a<=b->0 < a->a=b:=fun h1 h2 h3=>Nat.le_antisymm h2 (Nat.le_trans (Nat.le_of_eq h1) h3)
theorem Y187 {a b:Nat}:b=4->a < 4->a < b:=fun h1 h2=>Eq.symm h1 ▸ h2
theorem Y188 {a b:Nat}:b=a+1->a < b:=fun h1=>Eq.symm h1 ▸ Nat.lt_succ_self a
theorem Y189 {a b:Nat}:b=a->a=b:=fun h1=>h1 ▸ Eq.refl b
theorem Y190 {a b:Nat}:b=a->a<=b:=fun h1=>h1 ▸ Nat.le_of_lt_succ (Nat.lt_succ_self b)
theorem Y191 {a b:Nat}:b<=1->a < b->a=0:=fun h1 h2=>Nat.eq_zero_of_le_zero (Nat.le_of_lt_succ (Nat.lt_of_lt_of_le h2 h1))
theorem Y192 {a b:Nat}:b<=1->a<=b->¬a=0->a=1:=fun h1 h2 h3=>Nat.le_antisymm (Nat.le_trans h2 h1) (Nat.pos_of_ne_zero h3)
theorem Y193 {a b:Nat}:b<=100->a < b->(↑a:Int) < 2 ^ 63:=fun h1 h2=>c63 (Nat.lt_of_lt_of_le h2 (Nat.le_trans h1 (by decide)))
theorem Y194 {a b:Nat}:b<=100->a<=b->a<=1000:=fun h1 h2=>Nat.le_trans h2 (Nat.le_trans h1 (Nat.le_add_left 100 900))
theorem Y195 {a b:Nat}:b<=1000->a < b->(↑a:Int) < 2 ^ 63 - 1:=fun h1 h2=>Int.lt_of_lt_of_le (Int.ofNat_lt.mpr (Nat.lt_of_lt_of_le h2 h1)) (by decide)
theorem Y196 {a b:Nat}:b<=1000->a<=b->a<=1000:=fun h1 h2=>Nat.le_trans h2 h1
theorem Y197 {a b:Nat}:b<=3->a=b+1->a<=4:=fun h1 h2=>Eq.symm h2 ▸ Nat.lt_of_le_of_lt h1 (Nat.lt_succ_self 3)
theorem Y198 {a b:Nat}:b<=3->a=b->a<=3:=fun h1 h2=>h2 ▸ h1
theorem Y199 {a b:Nat}:b<=300->a+1<=b->a<=1000:=fun h1 h2=>Nat.le_of_add_le_add_right (Nat.le_trans h2 (Nat.le_trans h1 (Nat.le_add_left 300 701)))
theorem Y200 {a b:Nat}:b<=300->a=b->a<=1000:=fun h1 h2=>h2 ▸ Nat.le_trans h1 (by decide)
theorem Y201 {a b:Nat}:b<=300->a<=b->a<=1000:=fun h1 h2=>Nat.le_trans h2 (Nat.le_trans h1 (Nat.le_add_left 300 700))
theorem Y202 {a b:Nat}:b<=4->a < b->(↑a:Int) < 2 ^ 63:=fun h1 h2=>c63 (Nat.lt_of_lt_of_le h2 (Nat.le_trans h1 (by decide)))
theorem Y203 {a b:Nat}:b<=4->a=b->a+0<=7:=fun h1 h2=>h2 ▸ Nat.le_trans h1 (by decide)
theorem Y204 {a b:Nat}:b<=500->a=b->a<=1000:=fun h1 h2=>h2 ▸ Nat.le_trans h1 (by decide)
theorem Y205 {a b:Nat}:¬a < b->¬(↑a:Int) < (↑b:Int):=fun h1=>fun h=>h1 (Int.ofNat_lt.mp h)
theorem Y206 {a b c:Nat}:a+(b+1) < c->a+1+b < c:=fun h1=>Nat.lt_of_le_of_lt (Nat.le_of_eq (Nat.add_right_comm a 1 b)) h1
theorem Y207 {a b c:Nat}:a+(b+1)=c->a+1+b=c:=fun h1=>(Nat.add_right_comm a 1 b).trans h1
theorem Y208 {a b c:Nat}:a+(b+1)<=c->a+1+b<=c:=fun h1=>Nat.le_trans (Nat.le_of_eq (Nat.add_right_comm a 1 b)) h1
theorem Y209 {a b c:Nat}:a+(c * b+b)<=900->a+b+c * b<=900:=fun h1=>Nat.le_trans (Nat.le_of_eq ((Nat.add_right_comm a b (c * b)).trans (Nat.add_assoc a (c * b) b))) h1
theorem Y210 {a b c:Nat}:a+(c * b+b)<=900->a+b<=900:=fun h1=>Nat.le_trans (Nat.add_le_add (Nat.le_refl a) (Nat.le_add_left b (c * b))) h1
theorem Y211 {a b c:Nat}:a+(c+1) < b->a < b:=fun h1=>Nat.lt_of_le_of_lt (Nat.le_add_right a (c+1)) h1
theorem Y212 {a b c:Nat}:a+(c+1)=b->a < b:=fun h1=>h1 ▸ Nat.lt_add_of_pos_right (Nat.succ_pos c)
theorem Y213 {a b c:Nat}:a+(c+1)<=b->a < b:=fun h1=>Nat.le_trans (Nat.lt_add_of_pos_right (Nat.succ_pos c)) h1
theorem Y214 {a b c:Nat}:a+0<=c+b->a+b * 0<=c+b:=fun h1=>h1
theorem Y215 {a b c:Nat}:a+1+(b+1)<=c+1->a+b<=c:=fun h1=>Nat.le_trans (Nat.add_le_add_right (Nat.le_succ a) b) (Nat.le_of_succ_le_succ h1)
theorem Y216 {a b c:Nat}:a+1+b<=c+1->a+b<=c:=fun h1=>Nat.le_of_succ_le_succ (Nat.le_trans (Nat.le_of_eq (Nat.add_right_comm a b 1)) h1)
theorem Y217 {a b c:Nat}:a=c->c<=b % c->a<=b % c:=fun h1 h2=>h1 ▸ h2
theorem Y218 {a b c:Nat}:b+(c+1)=16->a<=b->a<=1000:=fun h1 h2=>Nat.le_trans h2 (Nat.le_trans (Nat.le_trans (Nat.le_add_right b (c+1)) (Nat.le_of_eq h1)) (by decide))
theorem Y219 {a b c:Nat}:b+(c+1)<=450->a<=b->a<=1000:=fun h1 h2=>Nat.le_trans h2 (Nat.le_trans (Nat.le_add_right b (c+1)) (Nat.le_trans h1 (by decide)))
theorem Y220 {a b c:Nat}:b+(c+1)<=450->a<=b->a<=500:=fun h1 h2=>Nat.le_trans h2 (Nat.le_trans (Nat.le_add_right b (c+1)) (Nat.le_trans h1 (by decide)))
theorem Y221 {a b c:Nat}:b+c<=400->a<=b->a<=500:=fun h1 h2=>Nat.le_trans h2 (Nat.le_trans (Nat.le_add_right b c) (Nat.le_trans h1 (by decide)))
theorem Y222 {a b c:Nat}:b=c->a < c->a < b:=fun h1 h2=>h1 ▸ h2
theorem Y223 {a b c:Nat}:b<=100->c<=b->a<=c->a<=200:=fun h1 h2 h3=>Nat.le_trans h3 (Nat.le_trans h2 (Nat.le_trans h1 (by decide)))
theorem Y224 {a b c:Nat}:b<=1000->a+(c+1)=b->(↑a:Int) < 2 ^ 63:=fun h1 h2=>c63 (Nat.lt_of_le_of_lt (Nat.le_trans (Nat.le_add_right a (c+1)) (Nat.le_trans (Nat.le_of_eq h2) h1)) (by decide))
theorem Y225 {a b c:Nat}:b<=300->c+1<=b->a=c+1->a<=1000:=fun h1 h2 h3=>Nat.le_trans (Nat.le_of_eq h3) (Nat.le_trans h2 (Nat.le_trans h1 (by decide)))
theorem Y226 {a b c:Nat}:b<=300->c<=b->a=c->a<=1000:=fun h1 h2 h3=>Nat.le_trans (Nat.le_of_eq h3) (Nat.le_trans h2 (Nat.le_trans h1 (by decide)))
theorem Y227 {a b c:Nat}:b<=500->a<=c+1->b=c->a<=1000:=fun h1 h2 h3=>Nat.le_trans h2 (Nat.le_trans (Nat.succ_le_succ (Nat.le_trans (Nat.le_of_eq h3.symm) h1)) (by decide))
theorem Y228 {a b c:Nat}:b<=c->a+20 * c<=6000->a+20 * b<=6000:=fun h1 h2=>Nat.le_trans (Nat.add_le_add_left (Nat.mul_le_mul_left 20 h1) a) h2
theorem Y229 {a b c:Nat}:b<=c->a+b<=a+c:=fun h1=>Nat.add_le_add (Nat.le_refl a) h1
theorem Y230 {a b c:Nat}:b<=c->a+c<=600->a+b<=600:=fun h1 h2=>Nat.le_trans (Nat.add_le_add (Nat.le_refl a) h1) h2
theorem Y231 {a b c:Nat}:b<=c->c<=100->a<=b->a<=1000:=fun h1 h2 h3=>Nat.le_trans h3 (Nat.le_trans h1 (Nat.le_trans h2 (by decide)))
theorem Y232 {a b c:Nat}:b<=c->min a b<=c:=fun h1=>Nat.le_trans (Nat.min_le_right a b) h1
theorem Y233 {a b c:Nat}:c < b+1->a < c->a < b:=fun h1 h2=>Nat.le_trans h2 (Nat.le_of_lt_succ h1)
theorem Y234 {a b c d:Nat}:a+(b+1)<=c+d->a+1+b<=c+d:=fun h1=>Nat.le_trans (Nat.le_of_eq (Nat.add_right_comm a 1 b)) h1
theorem Y235 {a b c d:Nat}:a+(b+1)<=c+d->a+b<=c+d:=fun h1=>Nat.le_trans (Nat.add_le_add (Nat.le_refl a) (Nat.le_add_right b 1)) h1
theorem Y236 {a b c d:Nat}:a+2 < d->b<=2->a+min b c < d:=fun h1 h2=>Nat.lt_of_le_of_lt (Nat.add_le_add_left (Nat.le_trans (Nat.min_le_left b c) h2) a) h1
theorem Y237 {a b c d:Nat}:a+3000 < d->b<=1->a+min b c < d:=fun h1 h2=>Nat.lt_of_le_of_lt (Nat.add_le_add_left (Nat.le_trans (Nat.min_le_left b c) (Nat.le_trans h2 (by decide))) a) h1
theorem Y238 {a b c d:Nat}:a+3000 < d->c=0->a+1+min b c < d:=fun h1 h2=>Nat.lt_of_le_of_lt (Nat.le_trans (Nat.add_le_add_left (Nat.le_trans (Nat.min_le_right b c) (Nat.le_of_eq h2)) (a+1)) (Nat.add_le_add_left (by decide:1<=3000) a)) h1
theorem Y239 {a b c d:Nat}:a < b->c - d+(b - a)<=0->False:=fun h1 h2=>Nat.not_le.mpr (Nat.lt_of_lt_of_le (Nat.sub_pos_of_lt h1) (Nat.le_add_left _ (c - d))) h2
theorem Y240 {a b c d:Nat}:b=4->a=c->b=c+(d+1)->a<=3:=fun h1 h2 h3=>Nat.le_of_lt_succ (Nat.lt_of_lt_of_le (h2 ▸ Nat.lt_add_of_pos_right (Nat.succ_pos d)) (Nat.le_of_eq (h3.symm.trans h1)))
theorem Y241 {a b c d:Nat}:b<=1->a+3000 < d->a+1+min b c < d:=fun h1 h2=>Nat.lt_of_le_of_lt (Nat.le_trans (Nat.add_le_add_left (Nat.le_trans (Nat.min_le_left b c) h1) (a+1)) (Nat.add_le_add_left (by decide:2<=3000) a)) h2
theorem Y242 {a b c d:Nat}:b<=100->a+3000 < d->a+min b c < d:=fun h1 h2=>Nat.lt_of_le_of_lt (Nat.add_le_add_left (Nat.le_trans (Nat.min_le_left b c) (Nat.le_trans h1 (by decide))) a) h2
theorem Y243 {a b c d:Nat}:c=d->a<=b->c<=a->a<=b/\c<=b/\d<=b:=fun h1 h2 h3=>⟨h2,Nat.le_trans h3 h2,h1 ▸ Nat.le_trans h3 h2⟩
theorem Y244 {a b c d:Nat}:c<=100->a+3000 < d->a+1+min b c < d:=fun h1 h2=>Nat.lt_of_le_of_lt (Nat.le_trans (Nat.add_le_add_left (Nat.le_trans (Nat.min_le_right b c) h1) (a+1)) (Nat.add_le_add_left (by decide:101<=3000) a)) h2
theorem Y245 {a b c d:Nat}:d+c * 0<=b+c->a<=d->a<=b+c:=fun h1 h2=>Nat.le_trans (Nat.le_trans h2 (Nat.le_add_right d (c * 0))) h1
theorem Y246 {a b c d e:Nat}:b+c<=900->d+(e+1)<=b+c->a<=d->a<=1000:=fun h1 h2 h3=>Nat.le_trans h3 (Nat.le_trans (Nat.le_add_right d (e+1)) (Nat.le_trans h2 (Nat.le_trans h1 (by decide))))
theorem Y247 {a b c d e:Nat}:b < a->a - b+(c - d)<=e+1->a - (b+1)+(c - d)<=e:=fun h1 h2=>Nat.le_of_succ_le_succ (Nat.le_trans (Nat.le_of_eq ((Nat.add_right_comm (a - (b+1)) (c - d) 1).trans (congrArg (· + (c - d)) (Nat.sub_add_cancel (Nat.sub_pos_of_lt h1))))) h2)
theorem Y248 {a b c d e:Nat}:c<=b->c=d->a=e->e=d->a<=b:=fun h1 h2 h3 h4=>Nat.le_trans (Nat.le_of_eq (h3.trans (h4.trans h2.symm))) h1
theorem Y249 {a b c d e:Nat}:d < c->a - b+(c - d)<=e+1->a - b+(c - (d+1))<=e:=fun h1 h2=>Nat.le_of_succ_le_succ (Nat.le_trans (Nat.le_of_eq (congrArg (a - b + ·) (Nat.sub_add_cancel (Nat.sub_pos_of_lt h1)))) h2)
end
section
noncomputable section
noncomputable abbrev pw:Program:=PySem.Challenge.pw_kt0059_01
noncomputable def keepL:List Stmt->List Bool->List Stmt
 | s::l,true::b=>s::keepL l b
 | _::l,false::b=>keepL l b
 | l,[]=>l
 | [],_=>[]
noncomputable def view:Program:={ pw with main:={ pw.main with body:=keepL pw.main.body [true,false,true,false,true,true,true,true,true,false,true,true,false] } }
noncomputable def nthS:List Stmt->Nat->Stmt
 | s::_,0=>s
 | _::l,n+1=>nthS l n
 | [],_=>.Pass ⟨0,0,0,0⟩
noncomputable def kidS:Stmt->List Stmt
 | .FunctionDef _ _ b _ _ _ _ _ _ _=>b
 | .ClassDef _ _ _ b _ _ _ _ _ _ _=>b
 | .For _ _ b _ _=>b
 | .While _ b _ _=>b
 | .Try b _ _ _ _=>b
 | _=>[]
noncomputable def parS:Stmt->Arguments
 | .FunctionDef _ a _ _ _ _ _ _ _ _=>a
 | _=>⟨[],[],none,[],[],none,[]⟩
noncomputable def scoS:Stmt->Scope
 | .FunctionDef _ _ _ _ _ _ s _ _ _=>s
 | .ClassDef _ _ _ _ _ _ s _ _ _ _=>s
 | _=>pw.main.scope
noncomputable abbrev ofS (s:String):PySem.Str:=PySem.Str.ofString s
noncomputable abbrev vs (s:String) (n:Tok):Value:=Value.str (ofS s) n
noncomputable abbrev de (P:Params) (k:String) (n:Tok) (v:Value):DictEntry:=⟨PyData.keyHash P (ofS k),Value.str (ofS k) n,v⟩
noncomputable abbrev tu (x:Array Value):Obj:={ cls:=Value.type "tuple",data:=Data.seq x }
noncomputable abbrev vi (k:Int):Value:=.int k 0
noncomputable abbrev vr (a:Addr):Value:=.ref a
noncomputable abbrev vf (n:Tok):Value:=vs "/claim/cut.py" n
noncomputable abbrev fa (n q:String) (S:Stmt):Obj:={ cls:=Value.none,data:=Data.func { name:=ofS n,qualname:=ofS q,params:=parS S,body:=FuncBody.stmts (kidS S),scope:=scoS S,globals:=0,closure:=[],defaults:=Value.none,kwdefaults:=Value.none } }
noncomputable abbrev fb (n q:String) (S:Stmt) (d m k:Value):Obj:={ cls:=Value.type "function",data:=Data.func { name:=ofS n,qualname:=ofS q,params:=parS S,body:=FuncBody.stmts (kidS S),scope:=scoS S,globals:=3,closure:=[],defaults:=d,kwdefaults:=Value.none,pyModule:=m,code:=k } }
noncomputable abbrev co (x:Array Value):Obj:={ cls:=Value.type "code",data:=Data.fields x }
noncomputable abbrev S0:Stmt:=nthS pw.main.body 0
noncomputable abbrev S2_2:Stmt:=nthS (kidS (nthS pw.main.body 2)) 2
noncomputable abbrev S2_3:Stmt:=nthS (kidS (nthS pw.main.body 2)) 3
noncomputable abbrev S2_4:Stmt:=nthS (kidS (nthS pw.main.body 2)) 4
noncomputable abbrev S2_5:Stmt:=nthS (kidS (nthS pw.main.body 2)) 5
noncomputable abbrev S2_6:Stmt:=nthS (kidS (nthS pw.main.body 2)) 6
noncomputable abbrev S2_7:Stmt:=nthS (kidS (nthS pw.main.body 2)) 7
noncomputable abbrev S6_1:Stmt:=nthS (kidS (nthS pw.main.body 6)) 1
noncomputable abbrev S8_0:Stmt:=nthS (kidS (nthS pw.main.body 8)) 0
noncomputable abbrev S8_1:Stmt:=nthS (kidS (nthS pw.main.body 8)) 1
noncomputable abbrev S8_2:Stmt:=nthS (kidS (nthS pw.main.body 8)) 2
noncomputable abbrev S8_3:Stmt:=nthS (kidS (nthS pw.main.body 8)) 3
noncomputable abbrev S8_4:Stmt:=nthS (kidS (nthS pw.main.body 8)) 4
noncomputable abbrev S8_5:Stmt:=nthS (kidS (nthS pw.main.body 8)) 5
noncomputable abbrev S8_6:Stmt:=nthS (kidS (nthS pw.main.body 8)) 6
noncomputable abbrev S8_7:Stmt:=nthS (kidS (nthS pw.main.body 8)) 7
noncomputable abbrev S8_8:Stmt:=nthS (kidS (nthS pw.main.body 8)) 8
noncomputable abbrev S8_9:Stmt:=nthS (kidS (nthS pw.main.body 8)) 9
noncomputable abbrev S10:Stmt:=nthS pw.main.body 10
noncomputable abbrev S11:Stmt:=nthS pw.main.body 11
noncomputable abbrev S13:Stmt:=nthS pw.main.body 13
noncomputable abbrev S14:Stmt:=nthS pw.main.body 14
noncomputable abbrev S15:Stmt:=nthS pw.main.body 15
noncomputable abbrev S16:Stmt:=nthS pw.main.body 16
noncomputable abbrev S17:Stmt:=nthS pw.main.body 17
noncomputable abbrev S18:Stmt:=nthS pw.main.body 18
noncomputable abbrev S19:Stmt:=nthS pw.main.body 19
noncomputable abbrev S20:Stmt:=nthS pw.main.body 20
noncomputable def o0 (P:Params):Obj:={ cls:=Value.type "dict",data:=Data.dict #[de P "__name__" 1 (vs "builtins" 160),de P "__doc__" 2 (.builtin "builtins.__doc__:str#opaque"),de P "__package__" 3 (.builtin "builtins.__package__:str#opaque"),de P "__loader__" 4 (.builtin "builtins.__loader__:shared#opaque"),de P "__spec__" 5 (.builtin "builtins.__spec__#opaque"),de P "__build_class__" 6 (.builtin "__build_class__"),de P "__import__" 7 (.builtin "__import__"),de P "abs" 8 (.builtin "abs"),de P "all" 9 (.builtin "all"),de P "any" 10 (.builtin "any"),de P "ascii" 11 (.builtin "ascii"),de P "bin" 12 (.builtin "bin"),de P "breakpoint" 13 (.builtin "breakpoint"),de P "callable" 14 (.builtin "callable"),de P "chr" 15 (.builtin "chr"),de P "compile" 16 (.builtin "compile"),de P "delattr" 17 (.builtin "delattr"),de P "dir" 18 (.builtin "dir"),de P "divmod" 19 (.builtin "divmod"),de P "eval" 20 (.builtin "eval"),de P "exec" 21 (.builtin "exec"),de P "format" 22 (.builtin "format"),de P "getattr" 23 (.builtin "getattr"),de P "globals" 24 (.builtin "globals"),de P "hasattr" 25 (.builtin "hasattr"),de P "hash" 26 (.builtin "hash"),de P "hex" 27 (.builtin "hex"),de P "id" 28 (.builtin "id"),de P "input" 29 (.builtin "input"),de P "isinstance" 30 (.builtin "isinstance"),de P "issubclass" 31 (.builtin "issubclass"),de P "iter" 32 (.builtin "iter"),de P "aiter" 33 (.builtin "aiter"),de P "len" 34 (.builtin "len"),de P "locals" 35 (.builtin "locals"),de P "max" 36 (.builtin "max"),de P "min" 37 (.builtin "min"),de P "next" 38 (.builtin "next"),de P "anext" 39 (.builtin "anext"),de P "oct" 40 (.builtin "oct"),de P "ord" 41 (.builtin "ord"),de P "pow" 42 (.builtin "pow"),de P "print" 43 (.builtin "print"),de P "repr" 44 (.builtin "repr"),de P "round" 45 (.builtin "round"),de P "setattr" 46 (.builtin "setattr"),de P "sorted" 47 (.builtin "sorted"),de P "sum" 48 (.builtin "sum"),de P "vars" 49 (.builtin "vars"),de P "None" 50 .none,de P "Ellipsis" 51 (Value.ellipsis),de P "NotImplemented" 52 (Value.notImplemented),de P "False" 53 (.bool Bool.false),de P "True" 54 (.bool Bool.true),de P "bool" 55 (.type "bool"),de P "memoryview" 56 (.type "memoryview"),de P "bytearray" 57 (.type "bytearray"),de P "bytes" 58 (.type "bytes"),de P "classmethod" 59 (.type "classmethod"),de P "complex" 60 (.type "complex"),de P "dict" 61 (.type "dict"),de P "enumerate" 62 (.type "enumerate"),de P "filter" 63 (.type "filter"),de P "float" 64 (.type "float"),de P "frozenset" 65 (.type "frozenset"),de P "property" 66 (.type "property"),de P "int" 67 (.type "int"),de P "list" 68 (.type "list"),de P "map" 69 (.type "map"),de P "object" 70 (.type "object"),de P "range" 71 (.type "range"),de P "reversed" 72 (.type "reversed"),de P "set" 73 (.type "set"),de P "slice" 74 (.type "slice"),de P "staticmethod" 75 (.type "staticmethod"),de P "str" 76 (.type "str"),de P "super" 77 (.type "super"),de P "tuple" 78 (.type "tuple"),de P "type" 79 (.type "type"),de P "zip" 80 (.type "zip"),de P "__debug__" 81 (.bool Bool.true),de P "BaseException" 82 (.type "BaseException"),de P "BaseExceptionGroup" 83 (.type "BaseExceptionGroup"),de P "Exception" 84 (.type "Exception"),de P "GeneratorExit" 85 (.type "GeneratorExit"),de P "KeyboardInterrupt" 86 (.type "KeyboardInterrupt"),de P "SystemExit" 87 (.type "SystemExit"),de P "ArithmeticError" 88 (.type "ArithmeticError"),de P "AssertionError" 89 (.type "AssertionError"),de P "AttributeError" 90 (.type "AttributeError"),de P "BufferError" 91 (.type "BufferError"),de P "EOFError" 92 (.type "EOFError"),de P "ImportError" 93 (.type "ImportError"),de P "LookupError" 94 (.type "LookupError"),de P "MemoryError" 95 (.type "MemoryError"),de P "NameError" 96 (.type "NameError"),de P "OSError" 97 (.type "OSError"),de P "ReferenceError" 98 (.type "ReferenceError"),de P "RuntimeError" 99 (.type "RuntimeError"),de P "StopAsyncIteration" 100 (.type "StopAsyncIteration"),de P "StopIteration" 101 (.type "StopIteration"),de P "SyntaxError" 102 (.type "SyntaxError"),de P "SystemError" 103 (.type "SystemError"),de P "TypeError" 104 (.type "TypeError"),de P "ValueError" 105 (.type "ValueError"),de P "Warning" 106 (.type "Warning"),de P "FloatingPointError" 107 (.type "FloatingPointError"),de P "OverflowError" 108 (.type "OverflowError"),de P "ZeroDivisionError" 109 (.type "ZeroDivisionError"),de P "BytesWarning" 110 (.type "BytesWarning"),de P "DeprecationWarning" 111 (.type "DeprecationWarning"),de P "EncodingWarning" 112 (.type "EncodingWarning"),de P "FutureWarning" 113 (.type "FutureWarning"),de P "ImportWarning" 114 (.type "ImportWarning"),de P "PendingDeprecationWarning" 115 (.type "PendingDeprecationWarning"),de P "ResourceWarning" 116 (.type "ResourceWarning"),de P "RuntimeWarning" 117 (.type "RuntimeWarning"),de P "SyntaxWarning" 118 (.type "SyntaxWarning"),de P "UnicodeWarning" 119 (.type "UnicodeWarning"),de P "UserWarning" 120 (.type "UserWarning"),de P "BlockingIOError" 121 (.type "BlockingIOError"),de P "ChildProcessError" 122 (.type "ChildProcessError"),de P "ConnectionError" 123 (.type "ConnectionError"),de P "FileExistsError" 124 (.type "FileExistsError"),de P "FileNotFoundError" 125 (.type "FileNotFoundError"),de P "InterruptedError" 126 (.type "InterruptedError"),de P "IsADirectoryError" 127 (.type "IsADirectoryError"),de P "NotADirectoryError" 128 (.type "NotADirectoryError"),de P "PermissionError" 129 (.type "PermissionError"),de P "ProcessLookupError" 130 (.type "ProcessLookupError"),de P "TimeoutError" 131 (.type "TimeoutError"),de P "IndentationError" 132 (.type "IndentationError"),de P "_IncompleteInputError" 133 (.type "_IncompleteInputError"),de P "IndexError" 134 (.type "IndexError"),de P "KeyError" 135 (.type "KeyError"),de P "ModuleNotFoundError" 136 (.type "ModuleNotFoundError"),de P "NotImplementedError" 137 (.type "NotImplementedError"),de P "PythonFinalizationError" 138 (.type "PythonFinalizationError"),de P "RecursionError" 139 (.type "RecursionError"),de P "UnboundLocalError" 140 (.type "UnboundLocalError"),de P "UnicodeError" 141 (.type "UnicodeError"),de P "BrokenPipeError" 142 (.type "BrokenPipeError"),de P "ConnectionAbortedError" 143 (.type "ConnectionAbortedError"),de P "ConnectionRefusedError" 144 (.type "ConnectionRefusedError"),de P "ConnectionResetError" 145 (.type "ConnectionResetError"),de P "TabError" 146 (.type "TabError"),de P "UnicodeDecodeError" 147 (.type "UnicodeDecodeError"),de P "UnicodeEncodeError" 148 (.type "UnicodeEncodeError"),de P "UnicodeTranslateError" 149 (.type "UnicodeTranslateError"),de P "ExceptionGroup" 150 (.type "ExceptionGroup"),de P "EnvironmentError" 151 (.type "OSError"),de P "IOError" 152 (.type "OSError"),de P "open" 153 (.builtin "open"),de P "quit" 154 (.builtin "builtins.quit#opaque"),de P "exit" 155 (.builtin "builtins.exit#opaque"),de P "copyright" 156 (.builtin "builtins.copyright#opaque"),de P "credits" 157 (.builtin "builtins.credits#opaque"),de P "license" 158 (.builtin "builtins.license#opaque"),de P "help" 159 (.builtin "builtins.help#opaque")] 159 }
noncomputable def o1 (P:Params):Obj:={ cls:=Value.type "dict",data:=Data.dict #[de P "builtins" 162 (.ref 4),de P "__main__" 163 (.ref 5)] 2 }
noncomputable def o2 (P:Params):Obj:={ cls:=Value.none,data:=Data.dict #[] }
noncomputable def o3 (P:Params):Obj:={ cls:=Value.type "dict",data:=Data.dict #[de P "__name__" 165 (vs "law_kt0059_01" 490),de P "__doc__" 166 .none,de P "__package__" 167 .none,de P "__loader__" 168 (.builtin "__main__.__loader__#opaque"),de P "__spec__" 169 .none,de P "__annotations__" 170 (.ref 6),de P "__builtins__" 171 (.ref 4),de P "__file__" 173 (vf 172),de P "__cached__" 174 .none,de P "_wall" 193 (.ref 21),de P "Flags" 283 (.ref 73),de P "_NODE_OUT" 288 (.int (-1) 287),de P "_NODE_DONE" 291 (.int (-2) 290),de P "_NodeInfo" 328 (.ref 96),de P "CycleError" 346 (.ref 111),de P "TopologicalSorter" 465 (.ref 193),de P "sorted_list_difference" 481 (.ref 204),de P "three_way_cmp" 489 (.ref 211),de P "_law_board" 497 (.ref 216),de P "_law_mine" 503 (.ref 221),de P "_law_play" 509 (.ref 226),de P "_law_book" 515 (.ref 231),de P "_law_closed" 521 (.ref 236),de P "_law_worth" 535 (.ref 243),de P "_law_settled" 541 (.ref 248),de P "law" 547 (.ref 253)] 26 }
noncomputable def o4 (P:Params):Obj:={ cls:=Value.type "module",dict:=Option.some 0 }
noncomputable def o5 (P:Params):Obj:={ cls:=Value.type "module",dict:=Option.some 3 }
noncomputable def o6 (P:Params):Obj:={ cls:=Value.type "dict",data:=Data.dict #[] }
noncomputable def o7 (P:Params):Obj:=tu #[]
noncomputable def o8 (P:Params):Obj:={ cls:=Value.none,data:=Data.fields #[] }
noncomputable def o9 (P:Params):Obj:=co #[vs "<module>" 176,vs "<module>" 177,vf 178,vi 1,vi 0,vi 0,vi 0,vi 0,vr 7,Value.bool Bool.false,vi 175,vr 8,Value.none,Value.none,Value.none,Value.none,vi 179,vi 1,vf 180]
noncomputable def o10 (P:Params):Obj:={ cls:=Value.type "frame",slots:=#[Option.some (.ref 9),Option.some (.ref 3),Option.some (.ref 3),Option.none,Option.some (vs "__main__" 164),Option.none,Option.some (.ref 0)] }
noncomputable def o11 (P:Params):Obj:=tu #[]
noncomputable def o12 (P:Params):Obj:={ cls:=Value.none,data:=Data.fields #[vi 1,vi 0,vr 20,vi 5,vi 0,vr 27,vi 59,vi 0,vr 83,vi 66,vi 0,vr 107,vi 68,vi 0,vr 120,vi 175,vi 0,vr 203,vi 207,vi 0,vr 210,vi 210,vi 0,vr 215,vi 222,vi 0,vr 220,vi 224,vi 0,vr 225,vi 249,vi 0,vr 230,vi 272,vi 0,vr 235,vi 279,vi 0,vr 242,vi 290,vi 0,vr 247,vi 304,vi 0,vr 252] }
noncomputable def o13 (P:Params):Obj:=co #[vs "<module>" 182,vs "<module>" 183,vf 184,vi 1,vi 0,vi 0,vi 0,vi 0,vr 11,Value.bool Bool.false,vi 181,vr 12,Value.none,Value.none,Value.none,Value.none,vi 185,vi 1,vf 186]
noncomputable def o14 (P:Params):Obj:={ cls:=Value.type "frame",slots:=#[Option.some (.ref 13),Option.some (.ref 3),Option.some (.ref 3),Option.none,Option.some (vs "__main__" 164),Option.none,Option.some (.ref 0)] }
noncomputable def o15 (P:Params):Obj:=tu #[]
noncomputable def o16 (P:Params):Obj:={ cls:=Value.none,data:=Data.fields #[] }
noncomputable def o17 (P:Params):Obj:=tu #[vs "k" 190]
noncomputable def o18 (P:Params):Obj:=tu #[]
noncomputable def o19 (P:Params):Obj:=fa "_wall" "_wall" S0
noncomputable def o20 (P:Params):Obj:=co #[vs "_wall" 187,vs "_wall" 188,vf 189,vi 1,vi 1,vi 0,vi 0,vi 3,vr 15,Value.bool Bool.true,vi 181,vr 16,Value.none,vr 17,vr 18,vr 19,vi 191,vi 1,vf 192]
noncomputable def o21 (P:Params):Obj:=fb "_wall" "_wall" S0 (Value.none) (vs "__main__" 164) (vr 20)
noncomputable def o29 (P:Params):Obj:=tu #[]
noncomputable def o30 (P:Params):Obj:={ cls:=Value.none,data:=Data.fields #[] }
noncomputable def o31 (P:Params):Obj:=tu #[vs "self" 215]
noncomputable def o32 (P:Params):Obj:=tu #[]
noncomputable def o33 (P:Params):Obj:=fa "__init__" "Flags.__init__" S2_2
noncomputable def o34 (P:Params):Obj:=co #[vs "__init__" 212,vs "Flags.__init__" 213,vf 214,vi 9,vi 1,vi 0,vi 0,vi 3,vr 29,Value.bool Bool.true,vi 181,vr 30,Value.none,vr 31,vr 32,vr 33,vi 216,vi 9,vf 217]
noncomputable def o35 (P:Params):Obj:=fb "__init__" "Flags.__init__" S2_2 (Value.none) (vs "cpy313.tomllib._parser" 194) (vr 34)
noncomputable def o36 (P:Params):Obj:=tu #[]
noncomputable def o37 (P:Params):Obj:={ cls:=Value.none,data:=Data.fields #[] }
noncomputable def o38 (P:Params):Obj:=tu #[vs "self" 222,vs "key" 223,vs "flag" 224]
noncomputable def o39 (P:Params):Obj:=tu #[]
noncomputable def o40 (P:Params):Obj:=fa "add_pending" "Flags.add_pending" S2_3
noncomputable def o41 (P:Params):Obj:=co #[vs "add_pending" 219,vs "Flags.add_pending" 220,vf 221,vi 13,vi 3,vi 0,vi 0,vi 3,vr 36,Value.bool Bool.true,vi 181,vr 37,Value.none,vr 38,vr 39,vr 40,vi 225,vi 13,vf 226]
noncomputable def o42 (P:Params):Obj:=fb "add_pending" "Flags.add_pending" S2_3 (Value.none) (vs "cpy313.tomllib._parser" 194) (vr 41)
noncomputable def o43 (P:Params):Obj:=tu #[]
noncomputable def o44 (P:Params):Obj:={ cls:=Value.none,data:=Data.fields #[] }
noncomputable def o45 (P:Params):Obj:=tu #[vs "self" 231,vs "key" 232,vs "flag" 233]
noncomputable def o46 (P:Params):Obj:=tu #[]
noncomputable def o47 (P:Params):Obj:=fa "finalize_pending" "Flags.finalize_pending" S2_4
noncomputable def o48 (P:Params):Obj:=co #[vs "finalize_pending" 228,vs "Flags.finalize_pending" 229,vf 230,vi 16,vi 1,vi 0,vi 0,vi 3,vr 43,Value.bool Bool.true,vi 181,vr 44,Value.none,vr 45,vr 46,vr 47,vi 234,vi 16,vf 235]
noncomputable def o49 (P:Params):Obj:=fb "finalize_pending" "Flags.finalize_pending" S2_4 (Value.none) (vs "cpy313.tomllib._parser" 194) (vr 48)
noncomputable def o50 (P:Params):Obj:=tu #[]
noncomputable def o51 (P:Params):Obj:={ cls:=Value.none,data:=Data.fields #[] }
noncomputable def o52 (P:Params):Obj:=tu #[vs "self" 240,vs "key" 241,vs "cont" 242,vs "k" 243]
noncomputable def o53 (P:Params):Obj:=tu #[]
noncomputable def o54 (P:Params):Obj:=fa "unset_all" "Flags.unset_all" S2_5
noncomputable def o55 (P:Params):Obj:=co #[vs "unset_all" 237,vs "Flags.unset_all" 238,vf 239,vi 21,vi 2,vi 0,vi 0,vi 3,vr 50,Value.bool Bool.true,vi 181,vr 51,Value.none,vr 52,vr 53,vr 54,vi 244,vi 21,vf 245]
noncomputable def o56 (P:Params):Obj:=fb "unset_all" "Flags.unset_all" S2_5 (Value.none) (vs "cpy313.tomllib._parser" 194) (vr 55)
noncomputable def o57 (P:Params):Obj:=tu #[]
noncomputable def o58 (P:Params):Obj:={ cls:=Value.none,data:=Data.fields #[] }
noncomputable def o59 (P:Params):Obj:=tu #[vs "self" 250,vs "key" 251,vs "flag" 252,vs "recursive" 253,vs "cont" 254,vs "key_parent" 255,vs "key_stem" 256,vs "k" 257]
noncomputable def o60 (P:Params):Obj:=tu #[]
noncomputable def o61 (P:Params):Obj:=fa "set" "Flags.set" S2_6
noncomputable def o62 (P:Params):Obj:=co #[vs "set" 247,vs "Flags.set" 248,vf 249,vi 29,vi 3,vi 0,vi 1,vi 3,vr 57,Value.bool Bool.true,vi 181,vr 58,Value.none,vr 59,vr 60,vr 61,vi 258,vi 29,vf 259]
noncomputable def o63 (P:Params):Obj:=fb "set" "Flags.set" S2_6 (Value.none) (vs "cpy313.tomllib._parser" 194) (vr 62)
noncomputable def o64 (P:Params):Obj:=tu #[]
noncomputable def o65 (P:Params):Obj:={ cls:=Value.none,data:=Data.fields #[] }
noncomputable def o66 (P:Params):Obj:=tu #[vs "self" 264,vs "key" 265,vs "flag" 266,vs "cont" 267,vs "k" 268,vs "inner_cont" 269,vs "key_stem" 270]
noncomputable def o67 (P:Params):Obj:=tu #[]
noncomputable def o68 (P:Params):Obj:=fa "is_" "Flags.is_" S2_7
noncomputable def o69 (P:Params):Obj:=co #[vs "is_" 261,vs "Flags.is_" 262,vf 263,vi 40,vi 3,vi 0,vi 0,vi 3,vr 64,Value.bool Bool.true,vi 181,vr 65,Value.none,vr 66,vr 67,vr 68,vi 271,vi 40,vf 272]
noncomputable def o70 (P:Params):Obj:=fb "is_" "Flags.is_" S2_7 (Value.none) (vs "cpy313.tomllib._parser" 194) (vr 69)
noncomputable def o71 (P:Params):Obj:=tu #[vs "_flags" 274,vs "_pending_flags" 275]
noncomputable def o72 (P:Params):Obj:={ cls:=Value.type "dict",data:=Data.dict #[de P "__module__" 203 (vs "cpy313.tomllib._parser" 194),de P "__firstlineno__" 207 (.int 5 206),de P "FROZEN" 209 (.int 0 208),de P "EXPLICIT_NEST" 211 (.int 1 210),de P "__init__" 218 (.ref 35),de P "add_pending" 227 (.ref 42),de P "finalize_pending" 236 (.ref 49),de P "unset_all" 246 (.ref 56),de P "set" 260 (.ref 63),de P "is_" 273 (.ref 70),de P "__static_attributes__" 276 (.ref 71),de P "__dict__" 278 (.ref 74),de P "__weakref__" 280 (.ref 75),de P "__doc__" 281 .none] 4 }
noncomputable def o73 (P:Params):Obj:={ cls:=Value.type "type",data:=Data.cls { name:=ofS "Flags",bases:=[Value.type "object"],mro:=[vr 73,Value.type "object"],ns:=72,qualname:=ofS "Flags" },slots:=#[Option.none,Option.none,Option.some (vs "Flags" 196),Option.some (vs "Flags" 204),Option.some (.builtin "object.__new__"),Option.some (.bool Bool.true)] }
noncomputable def o74 (P:Params):Obj:={ cls:=Value.type "getset_descriptor",data:=Data.fields #[vs "__dict__" 277,vr 73,Value.builtin "function.__dict__",Value.builtin "function.__dict__#set"] }
noncomputable def o75 (P:Params):Obj:={ cls:=Value.type "getset_descriptor",data:=Data.fields #[vs "__weakref__" 279,vr 73,Value.builtin "ExceptionGroup.__weakref__",Value.none] }
noncomputable def o85 (P:Params):Obj:=tu #[vs "node" 304,vs "npredecessors" 305,vs "successors" 306]
noncomputable def o86 (P:Params):Obj:=tu #[]
noncomputable def o87 (P:Params):Obj:={ cls:=Value.none,data:=Data.fields #[] }
noncomputable def o88 (P:Params):Obj:=tu #[vs "self" 311,vs "node" 312]
noncomputable def o89 (P:Params):Obj:=tu #[]
noncomputable def o90 (P:Params):Obj:=fa "__init__" "_NodeInfo.__init__" S6_1
noncomputable def o91 (P:Params):Obj:=co #[vs "__init__" 308,vs "_NodeInfo.__init__" 309,vf 310,vi 62,vi 2,vi 0,vi 0,vi 3,vr 86,Value.bool Bool.true,vi 181,vr 87,Value.none,vr 88,vr 89,vr 90,vi 313,vi 62,vf 314]
noncomputable def o92 (P:Params):Obj:=fb "__init__" "_NodeInfo.__init__" S6_1 (Value.none) (vs "cpy313.graphlib" 284) (vr 91)
noncomputable def o93 (P:Params):Obj:=tu #[vs "node" 316,vs "npredecessors" 317,vs "successors" 318]
noncomputable def o95 (P:Params):Obj:={ cls:=Value.type "dict",data:=Data.dict #[de P "__module__" 299 (vs "cpy313.graphlib" 284),de P "__firstlineno__" 303 (.int 59 302),de P "__slots__" 307 (.ref 85),de P "__init__" 315 (.ref 92),de P "__static_attributes__" 319 (.ref 93),de P "node" 321 (.ref 97),de P "npredecessors" 323 (.ref 98),de P "successors" 325 (.ref 99),de P "__doc__" 326 .none] 5 }
noncomputable def o96 (P:Params):Obj:={ cls:=Value.type "type",data:=Data.cls { name:=ofS "_NodeInfo",bases:=[Value.type "object"],mro:=[vr 96,Value.type "object"],ns:=95,qualname:=ofS "_NodeInfo",hasDict:=Bool.false,slotNames:=[ofS "node",ofS "npredecessors",ofS "successors"] },slots:=#[Option.none,Option.none,Option.some (vs "_NodeInfo" 292),Option.some (vs "_NodeInfo" 300),Option.some (.builtin "object.__new__"),Option.some (.bool Bool.false)] }
noncomputable def o97 (P:Params):Obj:={ cls:=Value.type "member_descriptor",data:=Data.fields #[vs "node" 320,vr 96,Value.builtin "proto.slot",Value.builtin "proto.slot#set",vi 2] }
noncomputable def o98 (P:Params):Obj:={ cls:=Value.type "member_descriptor",data:=Data.fields #[vs "npredecessors" 322,vr 96,Value.builtin "proto.slot",Value.builtin "proto.slot#set",vi 1] }
noncomputable def o99 (P:Params):Obj:={ cls:=Value.type "member_descriptor",data:=Data.fields #[vs "successors" 324,vr 96,Value.builtin "proto.slot",Value.builtin "proto.slot#set",vi 0] }
noncomputable def o102 (P:Params):Obj:=tu #[Value.type "ValueError"]
noncomputable def o109 (P:Params):Obj:=tu #[]
noncomputable def o110 (P:Params):Obj:={ cls:=Value.type "dict",data:=Data.dict #[de P "__module__" 336 (vs "cpy313.graphlib" 284),de P "__firstlineno__" 340 (.int 66 339),de P "__static_attributes__" 341 (.ref 109),de P "__weakref__" 343 (.ref 112),de P "__doc__" 344 .none] 3 }
noncomputable def o111 (P:Params):Obj:={ cls:=Value.type "type",data:=Data.cls { name:=ofS "CycleError",bases:=[Value.type "ValueError"],mro:=[vr 111,Value.type "ValueError",Value.type "Exception",Value.type "BaseException",Value.type "object"],ns:=110,qualname:=ofS "CycleError" },slots:=#[Option.some (.ref 102),Option.none,Option.some (vs "CycleError" 329),Option.some (vs "CycleError" 337),Option.some (.builtin "ValueError.__new__"),Option.some (.bool Bool.true)] }
noncomputable def o112 (P:Params):Obj:={ cls:=Value.type "getset_descriptor",data:=Data.fields #[vs "__weakref__" 342,vr 111,Value.builtin "ExceptionGroup.__weakref__",Value.none] }
noncomputable def o122 (P:Params):Obj:=tu #[Value.none]
noncomputable def o123 (P:Params):Obj:=tu #[]
noncomputable def o124 (P:Params):Obj:={ cls:=Value.none,data:=Data.fields #[] }
noncomputable def o125 (P:Params):Obj:=tu #[vs "self" 362,vs "graph" 363,vs "node" 364,vs "predecessors" 365]
noncomputable def o126 (P:Params):Obj:=tu #[]
noncomputable def o127 (P:Params):Obj:=fa "__init__" "TopologicalSorter.__init__" S8_0
noncomputable def o128 (P:Params):Obj:=co #[vs "__init__" 359,vs "TopologicalSorter.__init__" 360,vf 361,vi 70,vi 2,vi 0,vi 0,vi 3,vr 123,Value.bool Bool.true,vi 181,vr 124,Value.none,vr 125,vr 126,vr 127,vi 366,vi 70,vf 367]
noncomputable def o129 (P:Params):Obj:=fb "__init__" "TopologicalSorter.__init__" S8_0 (vr 122) (vs "cpy313.graphlib" 284) (vr 128)
noncomputable def o130 (P:Params):Obj:=tu #[]
noncomputable def o131 (P:Params):Obj:={ cls:=Value.none,data:=Data.fields #[] }
noncomputable def o132 (P:Params):Obj:=tu #[vs "self" 372,vs "node" 373,vs "result" 374]
noncomputable def o133 (P:Params):Obj:=tu #[]
noncomputable def o134 (P:Params):Obj:=fa "_get_nodeinfo" "TopologicalSorter._get_nodeinfo" S8_1
noncomputable def o135 (P:Params):Obj:=co #[vs "_get_nodeinfo" 369,vs "TopologicalSorter._get_nodeinfo" 370,vf 371,vi 79,vi 2,vi 0,vi 0,vi 3,vr 130,Value.bool Bool.true,vi 181,vr 131,Value.none,vr 132,vr 133,vr 134,vi 375,vi 79,vf 376]
noncomputable def o136 (P:Params):Obj:=fb "_get_nodeinfo" "TopologicalSorter._get_nodeinfo" S8_1 (Value.none) (vs "cpy313.graphlib" 284) (vr 135)
noncomputable def o137 (P:Params):Obj:=tu #[]
noncomputable def o138 (P:Params):Obj:={ cls:=Value.none,data:=Data.fields #[] }
noncomputable def o139 (P:Params):Obj:=tu #[vs "self" 381,vs "node" 382,vs "predecessors" 383,vs "nodeinfo" 384,vs "pred" 385,vs "pred_info" 386]
noncomputable def o140 (P:Params):Obj:=tu #[]
noncomputable def o141 (P:Params):Obj:=fa "add" "TopologicalSorter.add" S8_2
noncomputable def o142 (P:Params):Obj:=co #[vs "add" 378,vs "TopologicalSorter.add" 379,vf 380,vi 84,vi 2,vi 0,vi 0,vi 7,vr 137,Value.bool Bool.true,vi 181,vr 138,Value.none,vr 139,vr 140,vr 141,vi 387,vi 84,vf 388]
noncomputable def o143 (P:Params):Obj:=fb "add" "TopologicalSorter.add" S8_2 (Value.none) (vs "cpy313.graphlib" 284) (vr 142)
noncomputable def o144 (P:Params):Obj:=tu #[]
noncomputable def o145 (P:Params):Obj:={ cls:=Value.none,data:=Data.fields #[] }
noncomputable def o146 (P:Params):Obj:=fa "prepare" "TopologicalSorter.prepare" S8_3
noncomputable def o147 (P:Params):Obj:=co #[vs "prepare" 390,vs "TopologicalSorter.prepare" 391,vf 392,vi 93,vi 1,vi 0,vi 0,vi 3,vr 144,Value.bool Bool.true,vi 181,vr 145,Value.none,Value.none,Value.none,vr 146,vi 393,vi 93,vf 394]
noncomputable def o148 (P:Params):Obj:=fb "prepare" "TopologicalSorter.prepare" S8_3 (Value.none) (vs "cpy313.graphlib" 284) (vr 147)
noncomputable def o149 (P:Params):Obj:=tu #[]
noncomputable def o150 (P:Params):Obj:={ cls:=Value.none,data:=Data.fields #[] }
noncomputable def o151 (P:Params):Obj:=tu #[vs "self" 399,vs "result" 400,vs "n2i" 401,vs "node" 402]
noncomputable def o152 (P:Params):Obj:=tu #[]
noncomputable def o153 (P:Params):Obj:=fa "get_ready" "TopologicalSorter.get_ready" S8_4
noncomputable def o154 (P:Params):Obj:=co #[vs "get_ready" 396,vs "TopologicalSorter.get_ready" 397,vf 398,vi 101,vi 1,vi 0,vi 0,vi 3,vr 149,Value.bool Bool.true,vi 181,vr 150,Value.none,vr 151,vr 152,vr 153,vi 403,vi 101,vf 404]
noncomputable def o155 (P:Params):Obj:=fb "get_ready" "TopologicalSorter.get_ready" S8_4 (Value.none) (vs "cpy313.graphlib" 284) (vr 154)
noncomputable def o156 (P:Params):Obj:=tu #[]
noncomputable def o157 (P:Params):Obj:={ cls:=Value.none,data:=Data.fields #[] }
noncomputable def o158 (P:Params):Obj:=tu #[vs "self" 409]
noncomputable def o159 (P:Params):Obj:=tu #[]
noncomputable def o160 (P:Params):Obj:=fa "is_active" "TopologicalSorter.is_active" S8_5
noncomputable def o161 (P:Params):Obj:=co #[vs "is_active" 406,vs "TopologicalSorter.is_active" 407,vf 408,vi 112,vi 1,vi 0,vi 0,vi 3,vr 156,Value.bool Bool.true,vi 181,vr 157,Value.none,vr 158,vr 159,vr 160,vi 410,vi 112,vf 411]
noncomputable def o162 (P:Params):Obj:=fb "is_active" "TopologicalSorter.is_active" S8_5 (Value.none) (vs "cpy313.graphlib" 284) (vr 161)
noncomputable def o163 (P:Params):Obj:=tu #[]
noncomputable def o164 (P:Params):Obj:={ cls:=Value.none,data:=Data.fields #[] }
noncomputable def o165 (P:Params):Obj:=tu #[vs "self" 416]
noncomputable def o166 (P:Params):Obj:=tu #[]
noncomputable def o167 (P:Params):Obj:=fa "__bool__" "TopologicalSorter.__bool__" S8_6
noncomputable def o168 (P:Params):Obj:=co #[vs "__bool__" 413,vs "TopologicalSorter.__bool__" 414,vf 415,vi 117,vi 1,vi 0,vi 0,vi 3,vr 163,Value.bool Bool.true,vi 181,vr 164,Value.none,vr 165,vr 166,vr 167,vi 417,vi 117,vf 418]
noncomputable def o169 (P:Params):Obj:=fb "__bool__" "TopologicalSorter.__bool__" S8_6 (Value.none) (vs "cpy313.graphlib" 284) (vr 168)
noncomputable def o170 (P:Params):Obj:=tu #[]
noncomputable def o171 (P:Params):Obj:={ cls:=Value.none,data:=Data.fields #[] }
noncomputable def o172 (P:Params):Obj:=tu #[vs "self" 423,vs "nodes" 424,vs "n2i" 425,vs "node" 426,vs "nodeinfo" 427,vs "stat" 428,vs "successor" 429,vs "successor_info" 430]
noncomputable def o173 (P:Params):Obj:=tu #[]
noncomputable def o174 (P:Params):Obj:=fa "done" "TopologicalSorter.done" S8_7
noncomputable def o175 (P:Params):Obj:=co #[vs "done" 420,vs "TopologicalSorter.done" 421,vf 422,vi 120,vi 1,vi 0,vi 0,vi 7,vr 170,Value.bool Bool.true,vi 181,vr 171,Value.none,vr 172,vr 173,vr 174,vi 431,vi 120,vf 432]
noncomputable def o176 (P:Params):Obj:=fb "done" "TopologicalSorter.done" S8_7 (Value.none) (vs "cpy313.graphlib" 284) (vr 175)
noncomputable def o177 (P:Params):Obj:=tu #[]
noncomputable def o178 (P:Params):Obj:={ cls:=Value.none,data:=Data.fields #[] }
noncomputable def o179 (P:Params):Obj:=tu #[vs "self" 437,vs "n2i" 438,vs "stack" 439,vs "itstack" 440,vs "seen" 441,vs "node2stacki" 442,vs "node" 443]
noncomputable def o180 (P:Params):Obj:=tu #[]
noncomputable def o181 (P:Params):Obj:=fa "_find_cycle" "TopologicalSorter._find_cycle" S8_8
noncomputable def o182 (P:Params):Obj:=co #[vs "_find_cycle" 434,vs "TopologicalSorter._find_cycle" 435,vf 436,vi 143,vi 1,vi 0,vi 0,vi 3,vr 177,Value.bool Bool.true,vi 181,vr 178,Value.none,vr 179,vr 180,vr 181,vi 444,vi 143,vf 445]
noncomputable def o183 (P:Params):Obj:=fb "_find_cycle" "TopologicalSorter._find_cycle" S8_8 (Value.none) (vs "cpy313.graphlib" 284) (vr 182)
noncomputable def o184 (P:Params):Obj:=tu #[]
noncomputable def o185 (P:Params):Obj:={ cls:=Value.none,data:=Data.fields #[] }
noncomputable def o186 (P:Params):Obj:=tu #[vs "self" 450]
noncomputable def o187 (P:Params):Obj:=tu #[]
noncomputable def o188 (P:Params):Obj:=fa "static_order" "TopologicalSorter.static_order" S8_9
noncomputable def o189 (P:Params):Obj:=co #[vs "static_order" 447,vs "TopologicalSorter.static_order" 448,vf 449,vi 172,vi 1,vi 0,vi 0,vi 3,vr 184,Value.bool Bool.true,vi 181,vr 185,Value.none,vr 186,vr 187,vr 188,vi 451,vi 172,vf 452]
noncomputable def o190 (P:Params):Obj:=fb "static_order" "TopologicalSorter.static_order" S8_9 (Value.none) (vs "cpy313.graphlib" 284) (vr 189)
noncomputable def o191 (P:Params):Obj:=tu #[vs "_nfinished" 454,vs "_node2info" 455,vs "_npassedout" 456,vs "_ready_nodes" 457]
noncomputable def o192 (P:Params):Obj:={ cls:=Value.type "dict",data:=Data.dict #[de P "__module__" 354 (vs "cpy313.graphlib" 284),de P "__firstlineno__" 358 (.int 68 357),de P "__init__" 368 (.ref 129),de P "_get_nodeinfo" 377 (.ref 136),de P "add" 389 (.ref 143),de P "prepare" 395 (.ref 148),de P "get_ready" 405 (.ref 155),de P "is_active" 412 (.ref 162),de P "__bool__" 419 (.ref 169),de P "done" 433 (.ref 176),de P "_find_cycle" 446 (.ref 183),de P "static_order" 453 (.ref 190),de P "__static_attributes__" 458 (.ref 191),de P "__dict__" 460 (.ref 194),de P "__weakref__" 462 (.ref 195),de P "__doc__" 463 .none] 4 }
noncomputable def o193 (P:Params):Obj:={ cls:=Value.type "type",data:=Data.cls { name:=ofS "TopologicalSorter",bases:=[Value.type "object"],mro:=[vr 193,Value.type "object"],ns:=192,qualname:=ofS "TopologicalSorter" },slots:=#[Option.none,Option.none,Option.some (vs "TopologicalSorter" 347),Option.some (vs "TopologicalSorter" 355),Option.some (.builtin "object.__new__"),Option.some (.bool Bool.true)] }
noncomputable def o194 (P:Params):Obj:={ cls:=Value.type "getset_descriptor",data:=Data.fields #[vs "__dict__" 459,vr 193,Value.builtin "function.__dict__",Value.builtin "function.__dict__#set"] }
noncomputable def o195 (P:Params):Obj:={ cls:=Value.type "getset_descriptor",data:=Data.fields #[vs "__weakref__" 461,vr 193,Value.builtin "ExceptionGroup.__weakref__",Value.none] }
noncomputable def o198 (P:Params):Obj:=tu #[]
noncomputable def o199 (P:Params):Obj:={ cls:=Value.none,data:=Data.fields #[] }
noncomputable def o200 (P:Params):Obj:=tu #[vs "expected" 471,vs "actual" 472,vs "i" 473,vs "j" 474,vs "missing" 475,vs "unexpected" 476,vs "e" 477,vs "a" 478]
noncomputable def o201 (P:Params):Obj:=tu #[]
noncomputable def o202 (P:Params):Obj:=fa "sorted_list_difference" "sorted_list_difference" S10
noncomputable def o203 (P:Params):Obj:=co #[vs "sorted_list_difference" 468,vs "sorted_list_difference" 469,vf 470,vi 175,vi 2,vi 0,vi 0,vi 3,vr 198,Value.bool Bool.true,vi 181,vr 199,Value.none,vr 200,vr 201,vr 202,vi 479,vi 175,vf 480]
noncomputable def o204 (P:Params):Obj:=fb "sorted_list_difference" "sorted_list_difference" S10 (Value.none) (vs "cpy313.unittest.util" 466) (vr 203)
noncomputable def o205 (P:Params):Obj:=tu #[]
noncomputable def o206 (P:Params):Obj:={ cls:=Value.none,data:=Data.fields #[] }
noncomputable def o207 (P:Params):Obj:=tu #[vs "x" 485,vs "y" 486]
noncomputable def o208 (P:Params):Obj:=tu #[]
noncomputable def o209 (P:Params):Obj:=fa "three_way_cmp" "three_way_cmp" S11
noncomputable def o210 (P:Params):Obj:=co #[vs "three_way_cmp" 482,vs "three_way_cmp" 483,vf 484,vi 207,vi 2,vi 0,vi 0,vi 3,vr 205,Value.bool Bool.true,vi 181,vr 206,Value.none,vr 207,vr 208,vr 209,vi 487,vi 207,vf 488]
noncomputable def o211 (P:Params):Obj:=fb "three_way_cmp" "three_way_cmp" S11 (Value.none) (vs "cpy313.unittest.util" 466) (vr 210)
noncomputable def o212 (P:Params):Obj:=tu #[]
noncomputable def o213 (P:Params):Obj:={ cls:=Value.none,data:=Data.fields #[] }
noncomputable def o214 (P:Params):Obj:=fa "_law_board" "_law_board" S13
noncomputable def o215 (P:Params):Obj:=co #[vs "_law_board" 492,vs "_law_board" 493,vf 494,vi 210,vi 1,vi 0,vi 0,vi 3,vr 212,Value.bool Bool.true,vi 181,vr 213,Value.none,Value.none,Value.none,vr 214,vi 495,vi 210,vf 496]
noncomputable def o216 (P:Params):Obj:=fb "_law_board" "_law_board" S13 (Value.none) (vs "law_kt0059_01" 490) (vr 215)
noncomputable def o217 (P:Params):Obj:=tu #[]
noncomputable def o218 (P:Params):Obj:={ cls:=Value.none,data:=Data.fields #[] }
noncomputable def o219 (P:Params):Obj:=fa "_law_mine" "_law_mine" S14
noncomputable def o220 (P:Params):Obj:=co #[vs "_law_mine" 498,vs "_law_mine" 499,vf 500,vi 222,vi 2,vi 0,vi 0,vi 3,vr 217,Value.bool Bool.true,vi 181,vr 218,Value.none,Value.none,Value.none,vr 219,vi 501,vi 222,vf 502]
noncomputable def o221 (P:Params):Obj:=fb "_law_mine" "_law_mine" S14 (Value.none) (vs "law_kt0059_01" 490) (vr 220)
noncomputable def o222 (P:Params):Obj:=tu #[]
noncomputable def o223 (P:Params):Obj:={ cls:=Value.none,data:=Data.fields #[] }
noncomputable def o224 (P:Params):Obj:=fa "_law_play" "_law_play" S15
noncomputable def o225 (P:Params):Obj:=co #[vs "_law_play" 504,vs "_law_play" 505,vf 506,vi 224,vi 4,vi 0,vi 0,vi 3,vr 222,Value.bool Bool.true,vi 181,vr 223,Value.none,Value.none,Value.none,vr 224,vi 507,vi 224,vf 508]
noncomputable def o226 (P:Params):Obj:=fb "_law_play" "_law_play" S15 (Value.none) (vs "law_kt0059_01" 490) (vr 225)
noncomputable def o227 (P:Params):Obj:=tu #[]
noncomputable def o228 (P:Params):Obj:={ cls:=Value.none,data:=Data.fields #[] }
noncomputable def o229 (P:Params):Obj:=fa "_law_book" "_law_book" S16
noncomputable def o230 (P:Params):Obj:=co #[vs "_law_book" 510,vs "_law_book" 511,vf 512,vi 249,vi 1,vi 0,vi 0,vi 3,vr 227,Value.bool Bool.true,vi 181,vr 228,Value.none,Value.none,Value.none,vr 229,vi 513,vi 249,vf 514]
noncomputable def o231 (P:Params):Obj:=fb "_law_book" "_law_book" S16 (Value.none) (vs "law_kt0059_01" 490) (vr 230)
noncomputable def o232 (P:Params):Obj:=tu #[]
noncomputable def o233 (P:Params):Obj:={ cls:=Value.none,data:=Data.fields #[] }
noncomputable def o234 (P:Params):Obj:=fa "_law_closed" "_law_closed" S17
noncomputable def o235 (P:Params):Obj:=co #[vs "_law_closed" 516,vs "_law_closed" 517,vf 518,vi 272,vi 1,vi 0,vi 0,vi 3,vr 232,Value.bool Bool.true,vi 181,vr 233,Value.none,Value.none,Value.none,vr 234,vi 519,vi 272,vf 520]
noncomputable def o236 (P:Params):Obj:=fb "_law_closed" "_law_closed" S17 (Value.none) (vs "law_kt0059_01" 490) (vr 235)
noncomputable def o237 (P:Params):Obj:=tu #[]
noncomputable def o238 (P:Params):Obj:={ cls:=Value.none,data:=Data.fields #[] }
noncomputable def o239 (P:Params):Obj:=tu #[vs "position" 525,vs "board" 526,vs "root" 527,vs "worth" 528,vs "key" 529,vs "side" 530,vs "above" 531,vs "days" 532]
noncomputable def o240 (P:Params):Obj:=tu #[]
noncomputable def o241 (P:Params):Obj:=fa "_law_worth" "_law_worth" S18
noncomputable def o242 (P:Params):Obj:=co #[vs "_law_worth" 522,vs "_law_worth" 523,vf 524,vi 279,vi 3,vi 0,vi 0,vi 3,vr 237,Value.bool Bool.true,vi 181,vr 238,Value.none,vr 239,vr 240,vr 241,vi 533,vi 279,vf 534]
noncomputable def o243 (P:Params):Obj:=fb "_law_worth" "_law_worth" S18 (Value.none) (vs "law_kt0059_01" 490) (vr 242)
noncomputable def o244 (P:Params):Obj:=tu #[]
noncomputable def o245 (P:Params):Obj:={ cls:=Value.none,data:=Data.fields #[] }
noncomputable def o246 (P:Params):Obj:=fa "_law_settled" "_law_settled" S19
noncomputable def o247 (P:Params):Obj:=co #[vs "_law_settled" 536,vs "_law_settled" 537,vf 538,vi 290,vi 4,vi 0,vi 0,vi 3,vr 244,Value.bool Bool.true,vi 181,vr 245,Value.none,Value.none,Value.none,vr 246,vi 539,vi 290,vf 540]
noncomputable def o248 (P:Params):Obj:=fb "_law_settled" "_law_settled" S19 (Value.none) (vs "law_kt0059_01" 490) (vr 247)
noncomputable def o249 (P:Params):Obj:=tu #[]
noncomputable def o250 (P:Params):Obj:={ cls:=Value.none,data:=Data.fields #[] }
noncomputable def o251 (P:Params):Obj:=fa "law" "law" S20
noncomputable def o252 (P:Params):Obj:=co #[vs "law" 542,vs "law" 543,vf 544,vi 304,vi 1,vi 0,vi 0,vi 3,vr 249,Value.bool Bool.true,vi 181,vr 250,Value.none,Value.none,Value.none,vr 251,vi 545,vi 304,vf 546]
noncomputable def o253 (P:Params):Obj:=fb "law" "law" S20 (Value.none) (vs "law_kt0059_01" 490) (vr 252)
noncomputable def heap (P:Params):Frag:=[(0,o0 P),(1,o1 P),(2,o2 P),(3,o3 P),(4,o4 P),(5,o5 P),(6,o6 P),(7,o7 P),(8,o8 P),(9,o9 P),(10,o10 P),(11,o11 P),(12,o12 P),(13,o13 P),(14,o14 P),(15,o15 P),(16,o16 P),(17,o17 P),(18,o18 P),(19,o19 P),(20,o20 P),(21,o21 P),(29,o29 P),(30,o30 P),(31,o31 P),(32,o32 P),(33,o33 P),(34,o34 P),(35,o35 P),(36,o36 P),(37,o37 P),(38,o38 P),(39,o39 P),(40,o40 P),(41,o41 P),(42,o42 P),(43,o43 P),(44,o44 P),(45,o45 P),(46,o46 P),(47,o47 P),(48,o48 P),(49,o49 P),(50,o50 P),(51,o51 P),(52,o52 P),(53,o53 P),(54,o54 P),(55,o55 P),(56,o56 P),(57,o57 P),(58,o58 P),(59,o59 P),(60,o60 P),(61,o61 P),(62,o62 P),(63,o63 P),(64,o64 P),(65,o65 P),(66,o66 P),(67,o67 P),(68,o68 P),(69,o69 P),(70,o70 P),(71,o71 P),(72,o72 P),(73,o73 P),(74,o74 P),(75,o75 P),(85,o85 P),(86,o86 P),(87,o87 P),(88,o88 P),(89,o89 P),(90,o90 P),(91,o91 P),(92,o92 P),(93,o93 P),(95,o95 P),(96,o96 P),(97,o97 P),(98,o98 P),(99,o99 P),(102,o102 P),(109,o109 P),(110,o110 P),(111,o111 P),(112,o112 P),(122,o122 P),(123,o123 P),(124,o124 P),(125,o125 P),(126,o126 P),(127,o127 P),(128,o128 P),(129,o129 P),(130,o130 P),(131,o131 P),(132,o132 P),(133,o133 P),(134,o134 P),(135,o135 P),(136,o136 P),(137,o137 P),(138,o138 P),(139,o139 P),(140,o140 P),(141,o141 P),(142,o142 P),(143,o143 P),(144,o144 P),(145,o145 P),(146,o146 P),(147,o147 P),(148,o148 P),(149,o149 P),(150,o150 P),(151,o151 P),(152,o152 P),(153,o153 P),(154,o154 P),(155,o155 P),(156,o156 P),(157,o157 P),(158,o158 P),(159,o159 P),(160,o160 P),(161,o161 P),(162,o162 P),(163,o163 P),(164,o164 P),(165,o165 P),(166,o166 P),(167,o167 P),(168,o168 P),(169,o169 P),(170,o170 P),(171,o171 P),(172,o172 P),(173,o173 P),(174,o174 P),(175,o175 P),(176,o176 P),(177,o177 P),(178,o178 P),(179,o179 P),(180,o180 P),(181,o181 P),(182,o182 P),(183,o183 P),(184,o184 P),(185,o185 P),(186,o186 P),(187,o187 P),(188,o188 P),(189,o189 P),(190,o190 P),(191,o191 P),(192,o192 P),(193,o193 P),(194,o194 P),(195,o195 P),(198,o198 P),(199,o199 P),(200,o200 P),(201,o201 P),(202,o202 P),(203,o203 P),(204,o204 P),(205,o205 P),(206,o206 P),(207,o207 P),(208,o208 P),(209,o209 P),(210,o210 P),(211,o211 P),(212,o212 P),(213,o213 P),(214,o214 P),(215,o215 P),(216,o216 P),(217,o217 P),(218,o218 P),(219,o219 P),(220,o220 P),(221,o221 P),(222,o222 P),(223,o223 P),(224,o224 P),(225,o225 P),(226,o226 P),(227,o227 P),(228,o228 P),(229,o229 P),(230,o230 P),(231,o231 P),(232,o232 P),(233,o233 P),(234,o234 P),(235,o235 P),(236,o236 P),(237,o237 P),(238,o238 P),(239,o239 P),(240,o240 P),(241,o241 P),(242,o242 P),(243,o243 P),(244,o244 P),(245,o245 P),(246,o246 P),(247,o247 P),(248,o248 P),(249,o249 P),(250,o250 P),(251,o251 P),(252,o252 P),(253,o253 P)]
noncomputable def addrs:List Addr:=[0,1,2,3,4,5,6,7,8,9,10,11,12,13,14,15,16,17,18,19,20,21,29,30,31,32,33,34,35,36,37,38,39,40,41,42,43,44,45,46,47,48,49,50,51,52,53,54,55,56,57,58,59,60,61,62,63,64,65,66,67,68,69,70,71,72,73,74,75,85,86,87,88,89,90,91,92,93,95,96,97,98,99,102,109,110,111,112,122,123,124,125,126,127,128,129,130,131,132,133,134,135,136,137,138,139,140,141,142,143,144,145,146,147,148,149,150,151,152,153,154,155,156,157,158,159,160,161,162,163,164,165,166,167,168,169,170,171,172,173,174,175,176,177,178,179,180,181,182,183,184,185,186,187,188,189,190,191,192,193,194,195,198,199,200,201,202,203,204,205,206,207,208,209,210,211,212,213,214,215,216,217,218,219,220,221,222,223,224,225,226,227,228,229,230,231,232,233,234,235,236,237,238,239,240,241,242,243,244,245,246,247,248,249,250,251,252,253]
theorem heap_keys (P:Params):addrs=(heap P).map (·.1):=by kernel_rfl
noncomputable abbrev row:=PySem.Challenge.rw_kt0059_01.row
noncomputable abbrev loose:List PySem.Str:=[ofS "Flags",ofS "_NodeInfo"]
noncomputable def obs (s:Shared):List (Option Obj):=addrs.map s.heap.get?
noncomputable def val (w:World):List (Option Obj):=(heap w.params).map fun p=>some p.2
noncomputable def o22 (P:Params):Obj:=tu #[]
noncomputable def o23 (P:Params):Obj:=⟨.type "builtin_function_or_method",none,.fields #[.builtin "type.__prepare__",.type "type"],#[]⟩
noncomputable def o24 (P:Params):Obj:=⟨.type "dict",none,.dict #[de P "__module__" 203 (vs "cpy313.tomllib._parser" 194),de P "__qualname__" 205 (vs "Flags" 204),de P "__firstlineno__" 207 (Value.int 5 206),de P "FROZEN" 209 (Value.int 0 208),de P "EXPLICIT_NEST" 211 (Value.int 1 210),de P "__init__" 218 (vr 35),de P "add_pending" 227 (vr 42),de P "finalize_pending" 236 (vr 49),de P "unset_all" 246 (vr 56),de P "set" 260 (vr 63),de P "is_" 273 (vr 70),de P "__static_attributes__" 276 (vr 71)] 12,#[]⟩
noncomputable def o25 (P:Params):Obj:=tu #[]
noncomputable def o26 (P:Params):Obj:=⟨.none,none,.fields #[vi 9,vi 4,vr 34,vi 13,vi 4,vr 41,vi 16,vi 4,vr 48,vi 21,vi 4,vr 55,vi 29,vi 4,vr 62,vi 40,vi 4,vr 69],#[]⟩
noncomputable def o27 (P:Params):Obj:=co #[vs "Flags" 198,vs "Flags" 199,vf 200,vi 5,vi 0,vi 0,vi 0,vi 0,vr 25,.bool false,vi 181,vr 26,.none,.none,.none,.none,vi 201,vi 5,vf 202]
noncomputable def o28 (P:Params):Obj:={ cls:=.type "frame",slots:=#[some (vr 27),some (vr 3),some (vr 24),none,some (vs "cpy313.tomllib._parser" 194),none,some (vr 0)] }
noncomputable def o76 (P:Params):Obj:=⟨.type "super",none,.fields #[vr 73,vr 73,vr 73],#[]⟩
noncomputable def o77 (P:Params):Obj:=⟨.type "builtin_function_or_method",none,.fields #[.builtin "object.__init_subclass__",vr 73],#[]⟩
noncomputable def o78 (P:Params):Obj:=tu #[]
noncomputable def o79 (P:Params):Obj:=⟨.type "builtin_function_or_method",none,.fields #[.builtin "type.__prepare__",.type "type"],#[]⟩
noncomputable def o80 (P:Params):Obj:=⟨.type "dict",none,.dict #[de P "__module__" 299 (vs "cpy313.graphlib" 284),de P "__qualname__" 301 (vs "_NodeInfo" 300),de P "__firstlineno__" 303 (Value.int 59 302),de P "__slots__" 307 (vr 85),de P "__init__" 315 (vr 92),de P "__static_attributes__" 319 (vr 93)] 6,#[]⟩
noncomputable def o81 (P:Params):Obj:=tu #[]
noncomputable def o82 (P:Params):Obj:=⟨.none,none,.fields #[vi 62,vi 4,vr 91],#[]⟩
noncomputable def o83 (P:Params):Obj:=co #[vs "_NodeInfo" 294,vs "_NodeInfo" 295,vf 296,vi 59,vi 0,vi 0,vi 0,vi 0,vr 81,.bool false,vi 181,vr 82,.none,.none,.none,.none,vi 297,vi 59,vf 298]
noncomputable def o84 (P:Params):Obj:={ cls:=.type "frame",slots:=#[some (vr 83),some (vr 3),some (vr 80),none,some (vs "cpy313.graphlib" 284),none,some (vr 0)] }
noncomputable def o94 (P:Params):Obj:=⟨.type "list",none,.seq #[vs "node" 304,vs "npredecessors" 305,vs "successors" 306] 1,#[]⟩
noncomputable def o100 (P:Params):Obj:=⟨.type "super",none,.fields #[vr 96,vr 96,vr 96],#[]⟩
noncomputable def o101 (P:Params):Obj:=⟨.type "builtin_function_or_method",none,.fields #[.builtin "object.__init_subclass__",vr 96],#[]⟩
noncomputable def o103 (P:Params):Obj:=⟨.type "builtin_function_or_method",none,.fields #[.builtin "type.__prepare__",.type "type"],#[]⟩
noncomputable def o104 (P:Params):Obj:=⟨.type "dict",none,.dict #[de P "__module__" 336 (vs "cpy313.graphlib" 284),de P "__qualname__" 338 (vs "CycleError" 337),de P "__firstlineno__" 340 (Value.int 66 339),de P "__static_attributes__" 341 (vr 109)] 4,#[]⟩
noncomputable def o105 (P:Params):Obj:=tu #[]
noncomputable def o106 (P:Params):Obj:=⟨.none,none,.fields #[],#[]⟩
noncomputable def o107 (P:Params):Obj:=co #[vs "CycleError" 331,vs "CycleError" 332,vf 333,vi 66,vi 0,vi 0,vi 0,vi 0,vr 105,.bool false,vi 181,vr 106,.none,.none,.none,.none,vi 334,vi 66,vf 335]
noncomputable def o108 (P:Params):Obj:={ cls:=.type "frame",slots:=#[some (vr 107),some (vr 3),some (vr 104),none,some (vs "cpy313.graphlib" 284),none,some (vr 0)] }
noncomputable def o113 (P:Params):Obj:=⟨.type "super",none,.fields #[vr 111,vr 111,vr 111],#[]⟩
noncomputable def o114 (P:Params):Obj:=⟨.type "builtin_function_or_method",none,.fields #[.builtin "object.__init_subclass__",vr 111],#[]⟩
noncomputable def o115 (P:Params):Obj:=tu #[]
noncomputable def o116 (P:Params):Obj:=⟨.type "builtin_function_or_method",none,.fields #[.builtin "type.__prepare__",.type "type"],#[]⟩
noncomputable def o117 (P:Params):Obj:=⟨.type "dict",none,.dict #[de P "__module__" 354 (vs "cpy313.graphlib" 284),de P "__qualname__" 356 (vs "TopologicalSorter" 355),de P "__firstlineno__" 358 (Value.int 68 357),de P "__init__" 368 (vr 129),de P "_get_nodeinfo" 377 (vr 136),de P "add" 389 (vr 143),de P "prepare" 395 (vr 148),de P "get_ready" 405 (vr 155),de P "is_active" 412 (vr 162),de P "__bool__" 419 (vr 169),de P "done" 433 (vr 176),de P "_find_cycle" 446 (vr 183),de P "static_order" 453 (vr 190),de P "__static_attributes__" 458 (vr 191)] 14,#[]⟩
noncomputable def o118 (P:Params):Obj:=tu #[]
noncomputable def o119 (P:Params):Obj:=⟨.none,none,.fields #[vi 70,vi 4,vr 128,vi 79,vi 4,vr 135,vi 84,vi 4,vr 142,vi 93,vi 4,vr 147,vi 101,vi 4,vr 154,vi 112,vi 4,vr 161,vi 117,vi 4,vr 168,vi 120,vi 4,vr 175,vi 143,vi 4,vr 182,vi 172,vi 4,vr 189],#[]⟩
noncomputable def o120 (P:Params):Obj:=co #[vs "TopologicalSorter" 349,vs "TopologicalSorter" 350,vf 351,vi 68,vi 0,vi 0,vi 0,vi 0,vr 118,.bool false,vi 181,vr 119,.none,.none,.none,.none,vi 352,vi 68,vf 353]
noncomputable def o121 (P:Params):Obj:={ cls:=.type "frame",slots:=#[some (vr 120),some (vr 3),some (vr 117),none,some (vs "cpy313.graphlib" 284),none,some (vr 0)] }
noncomputable def o196 (P:Params):Obj:=⟨.type "super",none,.fields #[vr 193,vr 193,vr 193],#[]⟩
noncomputable def o197 (P:Params):Obj:=⟨.type "builtin_function_or_method",none,.fields #[.builtin "object.__init_subclass__",vr 193],#[]⟩
noncomputable def objA (P:Params) (t:List Obj):List Obj:=o4 P::o5 P::o6 P::o7 P::o8 P::o9 P::o10 P::t
noncomputable def objB (P:Params) (t:List Obj):List Obj:=o13 P::o14 P::t
noncomputable def objC (P:Params) (t:List Obj):List Obj:=o15 P::o16 P::o17 P::o18 P::o19 P::o20 P::o21 P::o22 P::o23 P::o24 P::o25 P::o26 P::o27 P::o28 P::o29 P::o30 P::o31 P::o32 P::o33 P::o34 P::o35 P::o36 P::o37 P::o38 P::o39 P::o40 P::o41 P::o42 P::o43 P::o44 P::o45 P::o46 P::o47 P::o48 P::o49 P::o50 P::o51 P::o52 P::o53 P::o54 P::o55 P::o56 P::o57 P::o58 P::o59 P::o60 P::o61 P::o62 P::o63 P::o64 P::o65 P::o66 P::o67 P::o68 P::o69 P::o70 P::o71 P::o72 P::o73 P::o74 P::o75 P::o76 P::o77 P::t
noncomputable def objD (P:Params) (t:List Obj):List Obj:=o78 P::o79 P::o80 P::o81 P::o82 P::o83 P::o84 P::o85 P::o86 P::o87 P::o88 P::o89 P::o90 P::o91 P::o92 P::o93 P::o94 P::o95 P::o96 P::o97 P::o98 P::o99 P::o100 P::o101 P::o102 P::o103 P::o104 P::o105 P::o106 P::o107 P::o108 P::o109 P::o110 P::o111 P::o112 P::o113 P::o114 P::t
noncomputable def objE (P:Params) (t:List Obj):List Obj:=o115 P::o116 P::o117 P::o118 P::o119 P::o120 P::o121 P::o122 P::o123 P::o124 P::o125 P::o126 P::o127 P::o128 P::o129 P::o130 P::o131 P::o132 P::o133 P::o134 P::o135 P::o136 P::o137 P::o138 P::o139 P::o140 P::o141 P::o142 P::o143 P::o144 P::o145 P::o146 P::o147 P::o148 P::o149 P::o150 P::o151 P::o152 P::o153 P::o154 P::o155 P::o156 P::o157 P::o158 P::o159 P::o160 P::o161 P::o162 P::o163 P::o164 P::o165 P::o166 P::o167 P::o168 P::o169 P::o170 P::o171 P::o172 P::o173 P::o174 P::o175 P::o176 P::o177 P::o178 P::o179 P::o180 P::o181 P::o182 P::o183 P::o184 P::o185 P::o186 P::o187 P::o188 P::o189 P::o190 P::o191 P::o192 P::o193 P::o194 P::o195 P::o196 P::o197 P::t
noncomputable def objF (P:Params) (t:List Obj):List Obj:=o198 P::o199 P::o200 P::o201 P::o202 P::o203 P::o204 P::o205 P::o206 P::o207 P::o208 P::o209 P::o210 P::o211 P::o212 P::o213 P::o214 P::o215 P::o216 P::o217 P::o218 P::o219 P::o220 P::o221 P::o222 P::o223 P::o224 P::o225 P::o226 P::o227 P::o228 P::o229 P::o230 P::o231 P::o232 P::o233 P::o234 P::o235 P::o236 P::o237 P::o238 P::o239 P::o240 P::o241 P::o242 P::o243 P::o244 P::o245 P::o246 P::o247 P::o248 P::o249 P::o250 P::o251 P::o252 P::o253 P::t
noncomputable def gTb (P:Params) (v:Value) (t:List DictEntry):List DictEntry:=de P "__name__" 165 v::de P "__doc__" 166 (.none)::de P "__package__" 167 (.none)::de P "__loader__" 168 (.builtin "__main__.__loader__#opaque")::de P "__spec__" 169 (.none)::de P "__annotations__" 170 (vr 6)::de P "__builtins__" 171 (vr 4)::de P "__file__" 173 (vs "/claim/cut.py" 172)::de P "__cached__" 174 (.none)::t
noncomputable def gTs0 (P:Params):Obj:=⟨.type "dict",none,.dict ⟨gTb P (vs "__main__" 164) []⟩ 9,#[]⟩
noncomputable def gTc (P:Params) (t:List DictEntry) (n:Nat):Obj:=⟨.type "dict",none,.dict ⟨gTb P (vs "cpy313.graphlib" 284) (de P "_wall" 193 (vr 21)::de P "Flags" 283 (vr 73)::de P "_NODE_OUT" 288 (Value.int (-1) 287)::de P "_NODE_DONE" 291 (Value.int (-2) 290)::t)⟩ n,#[]⟩
noncomputable def gTp5 (P:Params):Obj:=gTc P [] 13
noncomputable def gTp7 (P:Params):Obj:=gTc P [de P "_NodeInfo" 328 (vr 96),de P "CycleError" 346 (vr 111)] 15
noncomputable def gTp8 (P:Params):Obj:=gTc P [de P "_NodeInfo" 328 (vr 96),de P "CycleError" 346 (vr 111),de P "TopologicalSorter" 465 (vr 193)] 16
noncomputable def cTp5:Obj:=⟨.none,none,.fields #[vi 1,vi 0,vr 20,vi 5,vi 0,vr 27],#[]⟩
noncomputable def cTp7:Obj:=⟨.none,none,.fields #[vi 1,vi 0,vr 20,vi 5,vi 0,vr 27,vi 59,vi 0,vr 83,vi 66,vi 0,vr 107],#[]⟩
noncomputable def cTp8:Obj:=⟨.none,none,.fields #[vi 1,vi 0,vr 20,vi 5,vi 0,vr 27,vi 59,vi 0,vr 83,vi 66,vi 0,vr 107,vi 68,vi 0,vr 120],#[]⟩
noncomputable def cTpre:Obj:=⟨.none,none,.fields #[],#[]⟩
noncomputable def hTh (P:Params) (g:Obj) (t:List Obj):List Obj:=o0 P::o1 P::o2 P::g::objA P t
noncomputable def hT0 (P:Params):List Obj:=hTh P (gTs0 P) []
noncomputable def hTa (P:Params):List Obj:=hTh P (gTs0 P) (o11 P::cTpre::objB P [])
noncomputable def hT5 (P:Params):List Obj:=hTh P (gTp5 P) (o11 P::cTp5::objB P (objC P []))
noncomputable def hT7 (P:Params):List Obj:=hTh P (gTp7 P) (o11 P::cTp7::objB P (objC P (objD P [])))
noncomputable def hT8 (P:Params):List Obj:=hTh P (gTp8 P) (o11 P::cTp8::objB P (objC P (objD P (objE P []))))
noncomputable def hTz (P:Params):List Obj:=hTh P (o3 P) (o11 P::o12 P::objB P (objC P (objD P (objE P (objF P [])))))
noncomputable def heapT (l:Params->List Obj) (P:Params):Heap:=⟨⟨l P⟩,{}⟩
noncomputable def stT (l:Params->List Obj) (k:Tok) (w:World) (os:OsState):Shared:=⟨heapT l w.params,#[],{},k,os⟩
noncomputable def envT:Env:={ scope:=pw.main.scope,locals:=mainNs,globals:=mainNs,cells:=[],code:=.ref 13,frame:=some 14 }
noncomputable def bodyT:List Stmt:=behindTheImports pw
noncomputable def codeT:Code:=.body bodyT envT
noncomputable abbrev posT0:Pos:=⟨0,0,0,0⟩
noncomputable abbrev posT5:Pos:=⟨58,0,58,10⟩
noncomputable abbrev posT7:Pos:=⟨66,0,67,8⟩
noncomputable abbrev posT8:Pos:=⟨68,0,173,16⟩
noncomputable abbrev posTz:Pos:=⟨304,0,323,88⟩
noncomputable abbrev annT:Option Value:=some (.ref 6)
noncomputable abbrev frT:List Frame:=[topFrame posT0]
noncomputable def stmT1:List Stmt:=bodyT.take 6
noncomputable def stmT2:List Stmt:=(bodyT.drop 6).take 2
noncomputable def stmT3:List Stmt:=(bodyT.drop 8).take 1
noncomputable def stmT4:List Stmt:=bodyT.drop 9
theorem bodyT_cut:bodyT=stmT1++(stmT2++(stmT3++(stmT4++[]))):=by kernel_rfl
theorem run_pre (w:World) (os:OsState):topGo treeTable pw w 11 annT 12 (stT hT0 181 w os) (topStub pw)=some (stT hTa 187 w os,⟨denote treeTable codeT,codeT,posT0,frT⟩):=by kernel_rfl
theorem run_block (w:World) (os:OsState):segRun treeTable pw w 11 annT 1 1 (stT hTa 187 w os) (blockOf bodyT envT codeT posT0 frT)=some (.next,stT hTa 187 w os,codeT,posT0):=by kernel_rfl
theorem run_1 (w:World) (os:OsState):segRun treeTable pw w 11 annT 1 493 (stT hTa 187 w os) (piecesOf stmT1 envT codeT posT0 frT)=some (.next,stT hT5 292 w os,codeT,posT5):=by kernel_rfl
theorem run_2 (w:World) (os:OsState):segRun treeTable pw w 11 annT 1 450 (stT hT5 292 w os) (piecesOf stmT2 envT codeT posT5 frT)=some (.next,stT hT7 347 w os,codeT,posT7):=by kernel_rfl
theorem run_3 (w:World) (os:OsState):segRun treeTable pw w 11 annT 1 528 (stT hT7 347 w os) (piecesOf stmT3 envT codeT posT7 frT)=some (.next,stT hT8 466 w os,codeT,posT8):=by kernel_rfl
theorem run_4 (w:World) (os:OsState):segRun treeTable pw w 11 annT 1 303 (stT hT8 466 w os) (piecesOf stmT4 envT codeT posT8 frT)=some (.next,stT hTz 548 w os,codeT,posTz):=by kernel_rfl
theorem run_fin (w:World) (os:OsState):topRun treeTable pw w 11 annT 4 (stT hTz 548 w os) ⟨doneF .next,codeT,posTz,frT⟩=some (stT hTz 548 w os):=by kernel_rfl
theorem run_all (w:World) (os:OsState):topRun treeTable pw w 11 annT 1791 (stT hT0 181 w os) (topStub pw)=some (stT hTz 548 w os):=by
 refine go_top (n:=12) (N:=1779) (run_pre w os) ?_
 refine piece_block (n:=1) (N:=1778) (b:=bodyT) (env:=envT) (run_block w os) ?_
 refine (congrArg (fun b=>topRun treeTable pw w 11 annT 1778 (stT hTa 187 w os) (restOf b envT codeT posT0 frT)=some (stT hTz 548 w os)) bodyT_cut).mpr ?_
 refine piece_app (n:=493) (N:=1285) (run_1 w os) ?_
 refine piece_app (n:=450) (N:=835) (run_2 w os) ?_
 refine piece_app (n:=528) (N:=307) (run_3 w os) ?_
 refine piece_app (n:=303) (N:=4) (run_4 w os) ?_
 exact piece_nil (run_fin w os)
theorem run_open (w:World):(fencedOpening treeTable row.prog w 3666).map (fun s=>(s.heap,s.gens,s.drawn,s.toks))=some (heapT hT0 w.params,#[],{},181):=by kernel_rfl
theorem run_size (w:World):((heapT hT0 w.params).isNs mainGlobals&&(#[]:Array GenState).size == 0,(heapT hT0 w.params).objs.size,(heapT hT0 w.params).nsMap mainGlobals "__annotations__")=(true,11,annT):=by kernel_rfl
theorem run_looks (w:World):(fun os=>((staticsOk (importedModules row.prog.main.body) (heapT hT0 w.params) (heapT hTz w.params)&&namesBound row.prog (heapT hTz w.params)&&gensDone (stT hTz 548 w os)&&laidKept (heapT hT0 w.params) (heapT hTz w.params)),
  openSeen view loose (importedModules row.prog.main.body) (fun s=>xlAt view [] s&&recOk (RowW.records row.toRowW) s) true (stT hTz 548 w os),obs (stT hTz 548 w os)))=fun _=>(true,openGood view loose,val w):=by kernel_rfl
theorem left:LeftO row.prog view loose (fun s=>xlAt view [] s&&recOk (RowW.records row.toRowW) s) obs val 3666 :=
 LeftO.of_pieces run_open run_size run_all (by decide) run_looks
end
end
section
set_option genInjectivity false
set_option genSizeOf false
set_option genSizeOfSpec false
theorem dn_lt {n l k:Nat} (e:n=l - k) (h:k < l):l - (k+1) < n:=e ▸ Nat.sub_lt_sub_left h (Nat.lt_succ_self k)
theorem lt63 {n m:Nat} (h:n<=m) (hm:Nat.ble m 9223372036854775807=true:=by rfl):(n:Int) < 2 ^ 63:=Int.ofNat_lt.mpr (Nat.lt_of_le_of_lt h (Nat.lt_succ_of_le (Nat.le_of_ble_eq_true hm)))
theorem lt63' {n m:Nat} (h:n < m) (hm:Nat.ble m 9223372036854775807=true:=by rfl):(n:Int) < 2 ^ 63:=lt63 (Nat.le_of_lt h) hm
theorem elE {α0:Sort _} {p1:α0->Prop} {P:Prop} (h:∃ x0,p1 x0) (k:∀ x0,p1 x0->P):P:=h.elim fun x0 z0=>k x0 z0
theorem elA  {p0:Prop} {p1:Prop} {P:Prop} (h:p0/\p1) (k:p0->p1->P):P:=k h.1 h.2
theorem elEE {α0:Sort _} {α1:Sort _} {p2:α0->α1->Prop} {P:Prop} (h:∃ x0,∃ x1,p2 x0 x1) (k:∀ x0,∀ x1,p2 x0 x1->P):P:=h.elim fun x0 z0=>z0.elim fun x1 z1=>k x0 x1 z1
theorem elEA {α0:Sort _} {p1:α0->Prop} {p2:α0->Prop} {P:Prop} (h:∃ x0,p1 x0/\p2 x0) (k:∀ x0,p1 x0->p2 x0->P):P:=h.elim fun x0 z0=>k x0 z0.1 z0.2
theorem elAE {α1:Sort _} {p0:Prop} {p2:α1->Prop} {P:Prop} (h:p0/\∃ x1,p2 x1) (k:p0->∀ x1,p2 x1->P):P:=h.2.elim fun x1 z1=>k h.1 x1 z1
theorem elAA  {p0:Prop} {p1:Prop} {p2:Prop} {P:Prop} (h:p0/\p1/\p2) (k:p0->p1->p2->P):P:=k h.1 h.2.1 h.2.2
theorem elEEA {α0:Sort _} {α1:Sort _} {p2:α0->α1->Prop} {p3:α0->α1->Prop} {P:Prop} (h:∃ x0,∃ x1,p2 x0 x1/\p3 x0 x1) (k:∀ x0,∀ x1,p2 x0 x1->p3 x0 x1->P):P:=h.elim fun x0 z0=>z0.elim fun x1 z1=>k x0 x1 z1.1 z1.2
theorem elEAA {α0:Sort _} {p1:α0->Prop} {p2:α0->Prop} {p3:α0->Prop} {P:Prop} (h:∃ x0,p1 x0/\p2 x0/\p3 x0) (k:∀ x0,p1 x0->p2 x0->p3 x0->P):P:=h.elim fun x0 z0=>k x0 z0.1 z0.2.1 z0.2.2
theorem elEEE {α0:Sort _} {α1:Sort _} {α2:Sort _} {p3:α0->α1->α2->Prop} {P:Prop} (h:∃ x0,∃ x1,∃ x2,p3 x0 x1 x2) (k:∀ x0,∀ x1,∀ x2,p3 x0 x1 x2->P):P:=h.elim fun x0 z0=>z0.elim fun x1 z1=>z1.elim fun x2 z2=>k x0 x1 x2 z2
theorem elAEE {α1:Sort _} {α2:Sort _} {p0:Prop} {p3:α1->α2->Prop} {P:Prop} (h:p0/\∃ x1,∃ x2,p3 x1 x2) (k:p0->∀ x1,∀ x2,p3 x1 x2->P):P:=h.2.elim fun x1 z1=>z1.elim fun x2 z2=>k h.1 x1 x2 z2
theorem elAEA {α1:Sort _} {p0:Prop} {p2:α1->Prop} {p3:α1->Prop} {P:Prop} (h:p0/\∃ x1,p2 x1/\p3 x1) (k:p0->∀ x1,p2 x1->p3 x1->P):P:=h.2.elim fun x1 z1=>k h.1 x1 z1.1 z1.2
theorem elAEAA {α1:Sort _} {p0:Prop} {p2:α1->Prop} {p3:α1->Prop} {p4:α1->Prop} {P:Prop} (h:p0/\∃ x1,p2 x1/\p3 x1/\p4 x1) (k:p0->∀ x1,p2 x1->p3 x1->p4 x1->P):P:=h.2.elim fun x1 z1=>k h.1 x1 z1.1 z1.2.1 z1.2.2
theorem elAEEA {α1:Sort _} {α2:Sort _} {p0:Prop} {p3:α1->α2->Prop} {p4:α1->α2->Prop} {P:Prop} (h:p0/\∃ x1,∃ x2,p3 x1 x2/\p4 x1 x2) (k:p0->∀ x1,∀ x2,p3 x1 x2->p4 x1 x2->P):P:=h.2.elim fun x1 z1=>z1.elim fun x2 z2=>k h.1 x1 x2 z2.1 z2.2
theorem elEEAA {α0:Sort _} {α1:Sort _} {p2:α0->α1->Prop} {p3:α0->α1->Prop} {p4:α0->α1->Prop} {P:Prop} (h:∃ x0,∃ x1,p2 x0 x1/\p3 x0 x1/\p4 x0 x1) (k:∀ x0,∀ x1,p2 x0 x1->p3 x0 x1->p4 x0 x1->P):P:=h.elim fun x0 z0=>z0.elim fun x1 z1=>k x0 x1 z1.1 z1.2.1 z1.2.2
theorem elAAA  {p0:Prop} {p1:Prop} {p2:Prop} {p3:Prop} {P:Prop} (h:p0/\p1/\p2/\p3) (k:p0->p1->p2->p3->P):P:=k h.1 h.2.1 h.2.2.1 h.2.2.2
theorem elAAE {α2:Sort _} {p0:Prop} {p1:Prop} {p3:α2->Prop} {P:Prop} (h:p0/\p1/\∃ x2,p3 x2) (k:p0->p1->∀ x2,p3 x2->P):P:=h.2.2.elim fun x2 z2=>k h.1 h.2.1 x2 z2
theorem elAAEE {α2:Sort _} {α3:Sort _} {p0:Prop} {p1:Prop} {p4:α2->α3->Prop} {P:Prop} (h:p0/\p1/\∃ x2,∃ x3,p4 x2 x3) (k:p0->p1->∀ x2,∀ x3,p4 x2 x3->P):P:=h.2.2.elim fun x2 z2=>z2.elim fun x3 z3=>k h.1 h.2.1 x2 x3 z3
theorem elAAEA {α2:Sort _} {p0:Prop} {p1:Prop} {p3:α2->Prop} {p4:α2->Prop} {P:Prop} (h:p0/\p1/\∃ x2,p3 x2/\p4 x2) (k:p0->p1->∀ x2,p3 x2->p4 x2->P):P:=h.2.2.elim fun x2 z2=>k h.1 h.2.1 x2 z2.1 z2.2
theorem elAAAEA {α3:Sort _} {p0:Prop} {p1:Prop} {p2:Prop} {p4:α3->Prop} {p5:α3->Prop} {P:Prop} (h:p0/\p1/\p2/\∃ x3,p4 x3/\p5 x3) (k:p0->p1->p2->∀ x3,p4 x3->p5 x3->P):P:=h.2.2.2.elim fun x3 z3=>k h.1 h.2.1 h.2.2.1 x3 z3.1 z3.2
theorem elAAAEEA {α3:Sort _} {α4:Sort _} {p0:Prop} {p1:Prop} {p2:Prop} {p5:α3->α4->Prop} {p6:α3->α4->Prop} {P:Prop} (h:p0/\p1/\p2/\∃ x3,∃ x4,p5 x3 x4/\p6 x3 x4) (k:p0->p1->p2->∀ x3,∀ x4,p5 x3 x4->p6 x3 x4->P):P:=h.2.2.2.elim fun x3 z3=>z3.elim fun x4 z4=>k h.1 h.2.1 h.2.2.1 x3 x4 z4.1 z4.2
theorem elEEEA {α0:Sort _} {α1:Sort _} {α2:Sort _} {p3:α0->α1->α2->Prop} {p4:α0->α1->α2->Prop} {P:Prop} (h:∃ x0,∃ x1,∃ x2,p3 x0 x1 x2/\p4 x0 x1 x2) (k:∀ x0,∀ x1,∀ x2,p3 x0 x1 x2->p4 x0 x1 x2->P):P:=h.elim fun x0 z0=>z0.elim fun x1 z1=>z1.elim fun x2 z2=>k x0 x1 x2 z2.1 z2.2
theorem elEEEAA {α0:Sort _} {α1:Sort _} {α2:Sort _} {p3:α0->α1->α2->Prop} {p4:α0->α1->α2->Prop} {p5:α0->α1->α2->Prop} {P:Prop} (h:∃ x0,∃ x1,∃ x2,p3 x0 x1 x2/\p4 x0 x1 x2/\p5 x0 x1 x2) (k:∀ x0,∀ x1,∀ x2,p3 x0 x1 x2->p4 x0 x1 x2->p5 x0 x1 x2->P):P:=h.elim fun x0 z0=>z0.elim fun x1 z1=>z1.elim fun x2 z2=>k x0 x1 x2 z2.1 z2.2.1 z2.2.2
theorem elEEEAAA {α0:Sort _} {α1:Sort _} {α2:Sort _} {p3:α0->α1->α2->Prop} {p4:α0->α1->α2->Prop} {p5:α0->α1->α2->Prop} {p6:α0->α1->α2->Prop} {P:Prop} (h:∃ x0,∃ x1,∃ x2,p3 x0 x1 x2/\p4 x0 x1 x2/\p5 x0 x1 x2/\p6 x0 x1 x2) (k:∀ x0,∀ x1,∀ x2,p3 x0 x1 x2->p4 x0 x1 x2->p5 x0 x1 x2->p6 x0 x1 x2->P):P:=h.elim fun x0 z0=>z0.elim fun x1 z1=>z1.elim fun x2 z2=>k x0 x1 x2 z2.1 z2.2.1 z2.2.2.1 z2.2.2.2
theorem elEEEAAAA {α0:Sort _} {α1:Sort _} {α2:Sort _} {p3:α0->α1->α2->Prop} {p4:α0->α1->α2->Prop} {p5:α0->α1->α2->Prop} {p6:α0->α1->α2->Prop} {p7:α0->α1->α2->Prop} {P:Prop} (h:∃ x0,∃ x1,∃ x2,p3 x0 x1 x2/\p4 x0 x1 x2/\p5 x0 x1 x2/\p6 x0 x1 x2/\p7 x0 x1 x2) (k:∀ x0,∀ x1,∀ x2,p3 x0 x1 x2->p4 x0 x1 x2->p5 x0 x1 x2->p6 x0 x1 x2->p7 x0 x1 x2->P):P:=h.elim fun x0 z0=>z0.elim fun x1 z1=>z1.elim fun x2 z2=>k x0 x1 x2 z2.1 z2.2.1 z2.2.2.1 z2.2.2.2.1 z2.2.2.2.2
theorem elAAAA  {p0:Prop} {p1:Prop} {p2:Prop} {p3:Prop} {p4:Prop} {P:Prop} (h:p0/\p1/\p2/\p3/\p4) (k:p0->p1->p2->p3->p4->P):P:=k h.1 h.2.1 h.2.2.1 h.2.2.2.1 h.2.2.2.2
theorem elAAAAA  {p0:Prop} {p1:Prop} {p2:Prop} {p3:Prop} {p4:Prop} {p5:Prop} {P:Prop} (h:p0/\p1/\p2/\p3/\p4/\p5) (k:p0->p1->p2->p3->p4->p5->P):P:=k h.1 h.2.1 h.2.2.1 h.2.2.2.1 h.2.2.2.2.1 h.2.2.2.2.2
theorem elAAAAAA  {p0:Prop} {p1:Prop} {p2:Prop} {p3:Prop} {p4:Prop} {p5:Prop} {p6:Prop} {P:Prop} (h:p0/\p1/\p2/\p3/\p4/\p5/\p6) (k:p0->p1->p2->p3->p4->p5->p6->P):P:=k h.1 h.2.1 h.2.2.1 h.2.2.2.1 h.2.2.2.2.1 h.2.2.2.2.2.1 h.2.2.2.2.2.2
theorem elEEEE {α0:Sort _} {α1:Sort _} {α2:Sort _} {α3:Sort _} {p4:α0->α1->α2->α3->Prop} {P:Prop} (h:∃ x0,∃ x1,∃ x2,∃ x3,p4 x0 x1 x2 x3) (k:∀ x0,∀ x1,∀ x2,∀ x3,p4 x0 x1 x2 x3->P):P:=h.elim fun x0 z0=>z0.elim fun x1 z1=>z1.elim fun x2 z2=>z2.elim fun x3 z3=>k x0 x1 x2 x3 z3
theorem elEEEEA {α0:Sort _} {α1:Sort _} {α2:Sort _} {α3:Sort _} {p4:α0->α1->α2->α3->Prop} {p5:α0->α1->α2->α3->Prop} {P:Prop} (h:∃ x0,∃ x1,∃ x2,∃ x3,p4 x0 x1 x2 x3/\p5 x0 x1 x2 x3) (k:∀ x0,∀ x1,∀ x2,∀ x3,p4 x0 x1 x2 x3->p5 x0 x1 x2 x3->P):P:=h.elim fun x0 z0=>z0.elim fun x1 z1=>z1.elim fun x2 z2=>z2.elim fun x3 z3=>k x0 x1 x2 x3 z3.1 z3.2
theorem elEEEEAA {α0:Sort _} {α1:Sort _} {α2:Sort _} {α3:Sort _} {p4:α0->α1->α2->α3->Prop} {p5:α0->α1->α2->α3->Prop} {p6:α0->α1->α2->α3->Prop} {P:Prop} (h:∃ x0,∃ x1,∃ x2,∃ x3,p4 x0 x1 x2 x3/\p5 x0 x1 x2 x3/\p6 x0 x1 x2 x3) (k:∀ x0,∀ x1,∀ x2,∀ x3,p4 x0 x1 x2 x3->p5 x0 x1 x2 x3->p6 x0 x1 x2 x3->P):P:=h.elim fun x0 z0=>z0.elim fun x1 z1=>z1.elim fun x2 z2=>z2.elim fun x3 z3=>k x0 x1 x2 x3 z3.1 z3.2.1 z3.2.2
theorem elEEEEAAAAA {α0:Sort _} {α1:Sort _} {α2:Sort _} {α3:Sort _} {p4 p5 p6 p7 p8 p9:α0->α1->α2->α3->Prop} {P:Prop} (h:∃ x0 x1 x2 x3,p4 x0 x1 x2 x3/\p5 x0 x1 x2 x3/\p6 x0 x1 x2 x3/\p7 x0 x1 x2 x3/\p8 x0 x1 x2 x3/\p9 x0 x1 x2 x3) (k:∀ x0 x1 x2 x3,p4 x0 x1 x2 x3->p5 x0 x1 x2 x3->p6 x0 x1 x2 x3->p7 x0 x1 x2 x3->p8 x0 x1 x2 x3->p9 x0 x1 x2 x3->P):P:=elEEEE h fun x0 x1 x2 x3 z=>k x0 x1 x2 x3 z.1 z.2.1 z.2.2.1 z.2.2.2.1 z.2.2.2.2.1 z.2.2.2.2.2
theorem elEAAA {α0:Sort _} {p1:α0->Prop} {p2:α0->Prop} {p3:α0->Prop} {p4:α0->Prop} {P:Prop} (h:∃ x0,p1 x0/\p2 x0/\p3 x0/\p4 x0) (k:∀ x0,p1 x0->p2 x0->p3 x0->p4 x0->P):P:=h.elim fun x0 z0=>k x0 z0.1 z0.2.1 z0.2.2.1 z0.2.2.2
theorem elEEAAA {α0:Sort _} {α1:Sort _} {p2:α0->α1->Prop} {p3:α0->α1->Prop} {p4:α0->α1->Prop} {p5:α0->α1->Prop} {P:Prop} (h:∃ x0,∃ x1,p2 x0 x1/\p3 x0 x1/\p4 x0 x1/\p5 x0 x1) (k:∀ x0,∀ x1,p2 x0 x1->p3 x0 x1->p4 x0 x1->p5 x0 x1->P):P:=h.elim fun x0 z0=>z0.elim fun x1 z1=>k x0 x1 z1.1 z1.2.1 z1.2.2.1 z1.2.2.2
theorem elEEEEAAA {α0:Sort _} {α1:Sort _} {α2:Sort _} {α3:Sort _} {p4:α0->α1->α2->α3->Prop} {p5:α0->α1->α2->α3->Prop} {p6:α0->α1->α2->α3->Prop} {p7:α0->α1->α2->α3->Prop} {P:Prop} (h:∃ x0,∃ x1,∃ x2,∃ x3,p4 x0 x1 x2 x3/\p5 x0 x1 x2 x3/\p6 x0 x1 x2 x3/\p7 x0 x1 x2 x3) (k:∀ x0,∀ x1,∀ x2,∀ x3,p4 x0 x1 x2 x3->p5 x0 x1 x2 x3->p6 x0 x1 x2 x3->p7 x0 x1 x2 x3->P):P:=h.elim fun x0 z0=>z0.elim fun x1 z1=>z1.elim fun x2 z2=>z2.elim fun x3 z3=>k x0 x1 x2 x3 z3.1 z3.2.1 z3.2.2.1 z3.2.2.2
inductive V where
 | raw (v:Value)
 | int (i:Int)
 | str (x:Str)
 | tup (vs:List V)
 | lst (vs:List V)
 | sl (lo hi st:Option Int)
 | rng (n:Int)
 | vals (a:Addr)
noncomputable abbrev V.none:V:=.raw Value.none
noncomputable abbrev V.bool (b:Bool):V:=.raw (Value.bool b)
noncomputable abbrev V.obj (a:Addr):V:=.raw (Value.ref a)
inductive Ow where
 | frz | prot | frm | own (a:Addr)
noncomputable abbrev Gh:=Addr->Ow
theorem Ow.inj {a b:Addr} (h:Ow.own a = .own b):a=b:=by cases h;rfl
mutual
inductive RepV (g:Gh) (h:Heap):V->Value->Prop
 | raw (v:Value):RepV g h (.raw v) v
 | int (i:Int) (t:Tok):RepV g h (.int i) (.int i t)
 | str (x:Str) (t:Tok):RepV g h (.str x) (.str x t)
 | tup {a:Addr} {vs:List V} {items:Array Value} {n:Nat}:g a = .frz->IsT h a items n->RepVs g h vs items.toList->RepV g h (.tup vs) (.ref a)
 | lst {a:Addr} {vs:List V} {items:Array Value} {n:Nat}:g a = .frz->IsL h a items n->RepVs g h vs items.toList->RepV g h (.lst vs) (.ref a)
 | sl {a:Addr} {vl vu vk:Value} {lo hi st:Option Int}:g a = .frz->h.IsSliceOf a vl vu vk->IsPart vl lo->IsPart vu hi->IsPart vk st->RepV g h (.sl lo hi st) (.ref a)
 | rng {a:Addr} {n:Int} {t u v:Tok}:g a = .frz->IsRange h a 0 n 1 t u v->RepV g h (.rng n) (.ref a)
 | vals {a b:Addr}:g a = .frz->h.IsValuesView a b->RepV g h (.vals b) (.ref a)
inductive RepVs (g:Gh) (h:Heap):List V->List Value->Prop
 | nil:RepVs g h [] []
 | cons {v:V} {vs:List V} {c:Value} {cs:List Value}:RepV g h v c->RepVs g h vs cs->RepVs g h (v::vs) (c::cs)
end
noncomputable def RepV.Inv (g:Gh) (h:Heap) (v:V) (x:Value):Prop:=match v with
 | .raw w=>x=w
 | .int i=>∃ t,x = .int i t
 | .str k=>∃ t,x = .str k t
 | .tup vs=>∃ a items n,g a = .frz/\IsT h a items n/\RepVs g h vs items.toList/\x = .ref a
 | .lst vs=>∃ a items n,g a = .frz/\IsL h a items n/\RepVs g h vs items.toList/\x = .ref a
 | .sl lo hi st=>∃ a vl vu vk,g a = .frz/\h.IsSliceOf a vl vu vk/\IsPart vl lo/\IsPart vu hi/\IsPart vk st/\x = .ref a
 | .rng n=>∃ a t u w,g a = .frz/\IsRange h a 0 n 1 t u w/\x = .ref a
 | .vals b=>∃ a,g a = .frz/\h.IsValuesView a b/\x = .ref a
theorem RepV.inv {g:Gh} {h:Heap} {v:V} {x:Value} (r:RepV g h v x):RepV.Inv g h v x:=by
 cases r with
 | raw v=>exact rfl
 | int i t=>exact⟨t,rfl⟩
 | str k t=>exact⟨t,rfl⟩
 | tup f e z=>exact⟨_,_,_,f,e,z,rfl⟩
 | lst f e z=>exact⟨_,_,_,f,e,z,rfl⟩
 | sl f e p q u=>exact⟨_,_,_,_,f,e,p,q,u,rfl⟩
 | rng f e=>exact⟨_,_,_,_,f,e,rfl⟩
 | vals f e=>exact⟨_,f,e,rfl⟩
noncomputable def RepVs.Inv (g:Gh) (h:Heap) (vs:List V) (xs:List Value):Prop:=match vs with
 | []=>xs=[]
 | v::vs=>∃ c cs,xs=c::cs/\RepV g h v c/\RepVs g h vs cs
theorem RepVs.inv {g:Gh} {h:Heap} {vs:List V} {xs:List Value} (r:RepVs g h vs xs):RepVs.Inv g h vs xs:=by
 cases r with
 | nil=>exact rfl
 | cons a b=>exact⟨_,_,rfl,a,b⟩
theorem RepVs.c {g:Gh} {h:Heap} {v:V} {vs:List V} {xs:List Value} (r:RepVs g h (v::vs) xs):∃ c cs,xs=c::cs/\RepV g h v c/\RepVs g h vs cs:=r.inv
theorem RepVs.n {g:Gh} {h:Heap} {xs:List Value} (r:RepVs g h [] xs):xs=[]:=r.inv
theorem RepVs.c1 {g:Gh} {h:Heap} {u:V} {xs:List Value} (r:RepVs g h [u] xs):∃ x,xs=[x]/\RepV g h u x:=elEEAA r.c fun x r e u z=>⟨x,by rw[e,z.n],u⟩
theorem RepVs.c2 {g:Gh} {h:Heap} {u v:V} {xs:List Value} (r:RepVs g h [u,v] xs):∃ x y,xs=[x,y]/\RepV g h u x/\RepV g h v y:=elEEAA r.c fun x r e u z=>elEA z.c1 fun y e2 v=>⟨x,y,by rw[e,e2],u,v⟩
theorem RepVs.c3 {g:Gh} {h:Heap} {u v w:V} {xs:List Value} (r:RepVs g h [u,v,w] xs):∃ x y z,xs=[x,y,z]/\RepV g h u x/\RepV g h v y/\RepV g h w z:=elEEAA r.c fun x r e u z=>elEEAA z.c2 fun y z e2 v w=>⟨x,y,z,by rw[e,e2],u,v,w⟩
theorem RepV.r {g:Gh} {h:Heap} {v x:Value} (r:RepV g h (.raw v) x):x=v:=r.inv
theorem RepV.i {g:Gh} {h:Heap} {i:Int} {x:Value} (r:RepV g h (.int i) x):∃ t,x = .int i t:=r.inv
theorem RepV.s {g:Gh} {h:Heap} {k:Str} {x:Value} (r:RepV g h (.str k) x):∃ t,x = .str k t:=r.inv
theorem RepV.t {g:Gh} {h:Heap} {vs:List V} {x:Value} (r:RepV g h (.tup vs) x):∃ a items n,g a = .frz/\IsT h a items n/\RepVs g h vs items.toList/\x = .ref a:=r.inv
theorem RepV.l {g:Gh} {h:Heap} {vs:List V} {x:Value} (r:RepV g h (.lst vs) x):∃ a items n,g a = .frz/\IsL h a items n/\RepVs g h vs items.toList/\x = .ref a:=r.inv
theorem RepV.z {g:Gh} {h:Heap} {lo hi st:Option Int} {x:Value} (r:RepV g h (.sl lo hi st) x):∃ a vl vu vk,g a = .frz/\h.IsSliceOf a vl vu vk/\IsPart vl lo/\IsPart vu hi/\IsPart vk st/\x = .ref a:=r.inv
theorem lenS {α:Type} {xs:List α} {n:Nat} (h:xs.length=n+1):∃ u r,xs=u::r/\r.length=n:=by
 cases xs with
 | nil=>cases h
 | cons u r=>exact⟨u,r,rfl,Nat.succ.inj h⟩
theorem lenZ {α:Type} {xs:List α} (h:xs.length=0):xs=[]:=List.eq_nil_of_length_eq_zero h
theorem len1 {α:Type} {xs:List α} (h:xs.length=1):∃ u,xs=[u]:=elEEA (lenS h) fun u r e h=>⟨u,by rw[e,lenZ h]⟩
theorem len2 {α:Type} {xs:List α} (h:xs.length=2):∃ u v,xs=[u,v]:=elEEA (lenS h) fun u r e h=>elE (len1 h) fun v e2=>⟨u,v,by rw[e,e2]⟩
theorem len3 {α:Type} {xs:List α} (h:xs.length=3):∃ u v w,xs=[u,v,w]:=elEEA (lenS h) fun u r e h=>elEE (len2 h) fun v w e2=>⟨u,v,w,by rw[e,e2]⟩
theorem len4 {α:Type} {xs:List α} (h:xs.length=4):∃ u v w q,xs=[u,v,w,q]:=elEEA (lenS h) fun u r e h=>elEEE (len3 h) fun v w q e2=>⟨u,v,w,q,by rw[e,e2]⟩
theorem lt0 {p:Nat->Prop}:∀ i,i < 0->p i:=fun i h=>absurd h (Nat.not_lt_zero i)
theorem ltS {p:Nat->Prop} {n:Nat} (h:∀ i,i < n->p i) (hn:p n):∀ i,i < n+1->p i:=fun i hi=>(Nat.lt_succ_iff_lt_or_eq.mp hi).elim (h i) fun e=>e ▸ hn
theorem lt3 {p:Nat->Prop} (h0:p 0) (h1:p 1) (h2:p 2):∀ i,i < 3->p i:=ltS (ltS (ltS lt0 h0) h1) h2
theorem lt4 {p:Nat->Prop} (h0:p 0) (h1:p 1) (h2:p 2) (h3:p 3):∀ i,i < 4->p i:=ltS (lt3 h0 h1 h2) h3
theorem lt5 {p:Nat->Prop} (h0:p 0) (h1:p 1) (h2:p 2) (h3:p 3) (h4:p 4):∀ i,i < 5->p i:=ltS (lt4 h0 h1 h2 h3) h4
theorem inj_lt {f:Nat->Addr} {n:Nat} (h:∀ j,j < n->∀ i,i < j->f j≠f i):∀ i j,i < n->j < n->f i=f j->i=j:=fun i j hi hj e=>by
 rcases Nat.lt_trichotomy i j with q | q | q
 ·exact absurd e.symm (h j hj i q)
 ·exact q
 ·exact absurd e (h i hi j q)
theorem inj3 {f:Nat->Addr} (n10:f 1≠f 0) (n20:f 2≠f 0) (n21:f 2≠f 1):∀ i j,i < 3->j < 3->f i=f j->i=j:=inj_lt (lt3 lt0 (ltS lt0 n10) (ltS (ltS lt0 n20) n21))
theorem inj5 {f:Nat->Addr} (n10:f 1≠f 0) (n20:f 2≠f 0) (n21:f 2≠f 1) (n30:f 3≠f 0) (n31:f 3≠f 1) (n32:f 3≠f 2) (n40:f 4≠f 0) (n41:f 4≠f 1) (n42:f 4≠f 2) (n43:f 4≠f 3):∀ i j,i < 5->j < 5->f i=f j->i=j :=
 inj_lt (lt5 lt0 (ltS lt0 n10) (ltS (ltS lt0 n20) n21) (lt3 n30 n31 n32) (lt4 n40 n41 n42 n43))
structure Kp (g:Gh) (h:Heap) (g':Gh) (h':Heap):Prop where
 frz:∀ a o,g a = .frz->h.get? a=some o->g' a = .frz/\h'.get? a=some o
 prot:∀ a o,g a = .prot->h.get? a=some o->g' a = .prot/\h'.get? a=some o
 frm:∀ a o,g a = .frm->h.get? a=some o->g' a = .frm/\∃ sl,h'.get? a=some { o with slots:=sl }
theorem Kp.refl (g:Gh) (h:Heap):Kp g h g h:=⟨fun _ _ e x=>⟨e,x⟩,fun _ _ e x=>⟨e,x⟩,fun _ o e x=>⟨e,o.slots,x⟩⟩
theorem Kp.trans {g g' g'':Gh} {h h' h'':Heap} (x:Kp g h g' h') (y:Kp g' h' g'' h''):Kp g h g'' h'' :=
 ⟨fun a o e eo=>y.frz a o (x.frz a o e eo).1 (x.frz a o e eo).2,
  fun a o e eo=>y.prot a o (x.prot a o e eo).1 (x.prot a o e eo).2,
  fun a o e eo=>by
   refine elAE (x.frm a o e eo) fun e1 sl h1=>?_
   refine elAE (y.frm a _ e1 h1) fun e2 sl2 h2=>?_
   exact⟨e2,sl2,h2⟩⟩
theorem RepV.monoB {g g':Gh} {h h':Heap} (k:∀ a o,g a = .frz->h.get? a=some o->g' a = .frz/\h'.get? a=some o):(∀ {v:V} {c:Value},RepV g h v c->RepV g' h' v c)/\∀ {vs:List V} {cs:List Value},RepVs g h vs cs->RepVs g' h' vs cs :=
 have q:=fun (v:V) (c:Value) (r:RepV g h v c)=>RepV.rec (motive_1:=fun v c _=>RepV g' h' v c) (motive_2:=fun vs cs _=>RepVs g' h' vs cs) .raw .int .str (fun f e _ z=>.tup (k _ _ f e).1 (k _ _ f e).2 z) (fun f e _ z=>.lst (k _ _ f e).1 (k _ _ f e).2 z)
  (fun f e pl pu pk=>.sl (k _ _ f e.choose_spec.1).1 ⟨_,(k _ _ f e.choose_spec.1).2,e.choose_spec.2⟩ pl pu pk) (fun f e=>.rng (k _ _ f e).1 (k _ _ f e).2) (fun f e=>.vals (k _ _ f e.choose_spec.1).1 ⟨_,(k _ _ f e.choose_spec.1).2,e.choose_spec.2⟩) .nil (fun _ _ x y=>.cons x y) r
 ⟨fun r=>q _ _ r,fun r=>by
  induction r using RepVs.rec (motive_1:=fun _ _ _=>True) with
  | nil=>exact .nil
  | cons a _ _ ih=>exact .cons (q _ _ a) ih
  | _=>trivial⟩
theorem RepV.mono {g g':Gh} {h h':Heap} (k:∀ a o,g a = .frz->h.get? a=some o->g' a = .frz/\h'.get? a=some o) {v:V} {c:Value} (r:RepV g h v c):RepV g' h' v c:=(RepV.monoB k).1 r
theorem RepVs.mono {g g':Gh} {h h':Heap} (k:∀ a o,g a = .frz->h.get? a=some o->g' a = .frz/\h'.get? a=some o) {vs:List V} {cs:List Value} (r:RepVs g h vs cs):RepVs g' h' vs cs:=(RepV.monoB k).2 r
theorem RepVs.ind {g:Gh} {h:Heap} {P:List V->List Value->Prop} (h0:P [] []) (h1:∀ {v c vs cs},RepV g h v c->RepVs g h vs cs->P vs cs->P (v::vs) (c::cs)) {vs:List V} {cs:List Value} (r:RepVs g h vs cs):P vs cs :=
 RepVs.rec (motive_1:=fun _ _ _=>True) (motive_2:=fun vs cs _=>P vs cs) (fun _=>trivial) (fun _ _=>trivial) (fun _ _=>trivial) (fun _ _ _ _=>trivial) (fun _ _ _ _=>trivial) (fun _ _ _ _ _=>trivial) (fun _ _=>trivial) (fun _ _=>trivial) h0 (fun a b _ i=>h1 a b i) r
theorem RepV.kp {g g':Gh} {h h':Heap} {v:V} {c:Value} (x:RepV g h v c) (k:Kp g h g' h'):RepV g' h' v c:=x.mono k.frz
theorem RepVs.kp {g g':Gh} {h h':Heap} {v:List V} {c:List Value} (x:RepVs g h v c) (k:Kp g h g' h'):RepVs g' h' v c:=x.mono k.frz
theorem RepVs.length {g:Gh} {h:Heap} {vs:List V} {cs:List Value} (r:RepVs g h vs cs):vs.length=cs.length:=r.ind (P:=fun vs cs=>vs.length=cs.length) rfl fun _ _ i=>congrArg Nat.succ i
theorem szI {g:Gh} {h:Heap} {vs:List V} {items:Array Value} (z:RepVs g h vs items.toList):items.size=vs.length:=Array.length_toList.symm.trans z.length.symm
theorem RepVs.append {g:Gh} {h:Heap} {vs ws:List V} {cs ds:List Value} (r:RepVs g h vs cs) (y:RepVs g h ws ds):RepVs g h (vs++ws) (cs++ds):=r.ind (P:=fun vs cs=>RepVs g h (vs++ws) (cs++ds)) y fun a _ i=>.cons a i
theorem RepVs.get {g:Gh} {h:Heap} {vs:List V} {cs:List Value} {i:Nat} {v:V} (r:RepVs g h vs cs) (e:vs[i]? = some v):∃ c,cs[i]? = some c/\RepV g h v c :=
 r.ind (P:=fun vs cs=>∀ i,vs[i]? = some v->∃ c,cs[i]? = some c/\RepV g h v c) (fun i e=>nomatch List.getElem?_nil.symm.trans e) (fun {v' c' _ _} a _ ih i e=>match i with
  | 0=>⟨c',rfl,Option.some.inj e ▸ a⟩
  | i+1=>ih i e) i e
theorem RepVs.take {g:Gh} {h:Heap} {vs:List V} {cs:List Value} (r:RepVs g h vs cs) (n:Nat):RepVs g h (vs.take n) (cs.take n) :=
 r.ind (P:=fun vs cs=>∀ n,RepVs g h (vs.take n) (cs.take n)) (fun n=>by rw[List.take_nil,List.take_nil];exact .nil) (fun a _ ih n=>match n with
  | 0=>.nil
  | n+1=>.cons a (ih n)) n
theorem RepVs.drop {g:Gh} {h:Heap} {vs:List V} {cs:List Value} (r:RepVs g h vs cs) (n:Nat):RepVs g h (vs.drop n) (cs.drop n) :=
 r.ind (P:=fun vs cs=>∀ n,RepVs g h (vs.drop n) (cs.drop n)) (fun n=>by rw[List.drop_nil,List.drop_nil];exact .nil) (fun a b ih n=>match n with
  | 0=>.cons a b
  | n+1=>ih n) n
theorem RepVs.reverse {g:Gh} {h:Heap} {vs:List V} {cs:List Value} (r:RepVs g h vs cs):RepVs g h vs.reverse cs.reverse :=
 r.ind (P:=fun vs cs=>RepVs g h vs.reverse cs.reverse) .nil fun a _ ih=>by rw[List.reverse_cons,List.reverse_cons];exact ih.append (.cons a .nil)
section
variable {κ:Type} [DecidableEq κ]
noncomputable def look {α:Type} (k:κ):List (κ×α)->Option α
 | []=>none
 | (k',v)::r=>if k'=k then some v else look k r
noncomputable def put {α:Type} (k:κ) (v:α):List (κ×α)->List (κ×α)
 | []=>[(k,v)]
 | (k',v')::r=>if k'=k then (k',v)::r else (k',v')::put k v r
inductive RepKV (g:Gh) (h:Heap):List (κ×V)->List (κ×Value)->Prop
 | nil:RepKV g h [] []
 | cons {k:κ} {v:V} {c:Value} {r:List (κ×V)} {r':List (κ×Value)}:RepV g h v c->RepKV g h r r'->RepKV g h ((k,v)::r) ((k,c)::r')
theorem RepKV.mono {g g':Gh} {h h':Heap} (k:∀ a o,g a = .frz->h.get? a=some o->g' a = .frz/\h'.get? a=some o) {xs:List (κ×V)} {ys:List (κ×Value)} (x:RepKV g h xs ys):RepKV g' h' xs ys:=by
 induction x with
 | nil=>exact .nil
 | cons a _ ih=>exact .cons (a.mono k) ih
theorem look_cons {α:Type} {k k':κ} {v:α} {r:List (κ×α)}:Mine.look k ((k',v)::r)=if k'=k then some v else Mine.look k r:=rfl
theorem put_cons {α:Type} {k k':κ} {v v':α} {r:List (κ×α)}:Mine.put k v ((k',v')::r)=if k'=k then (k',v)::r else (k',v')::Mine.put k v r:=rfl
theorem valueAt_cons (k' k:κ) (c:Value) (r:List (κ×Value)):valueAt ((k',c)::r) k=if k'=k then some c else valueAt r k:=by
 unfold valueAt
 rw[List.find?_cons]
 by_cases h:k'=k<;>simp[h]
theorem RepKV.look {g:Gh} {h:Heap} {xs:List (κ×V)} {ys:List (κ×Value)} (x:RepKV g h xs ys) (k:κ) :
  (Mine.look k xs=none/\valueAt ys k=none)\/∃ v c,Mine.look k xs=some v/\valueAt ys k=some c/\RepV g h v c:=by
 induction x with
 | nil=>exact .inl ⟨rfl,rfl⟩
 | @cons k' v c r r' a _ ih =>
  rw[valueAt_cons,look_cons]
  by_cases e:k'=k
  ·rw[if_pos e,if_pos e];exact .inr ⟨v,c,rfl,rfl,a⟩
  ·rw[if_neg e,if_neg e];exact ih
theorem RepKV.keys {g:Gh} {h:Heap} {xs:List (κ×V)} {ys:List (κ×Value)} (x:RepKV g h xs ys):xs.map (·.1)=ys.map (·.1):=by
 induction x with
 | nil=>rfl
 | cons a _ ih=>exact congrArg (_ :: ·) ih
theorem put_new {α:Type} {k:κ} {v:α} {xs:List (κ×α)} (h:k ∉ xs.map (·.1)):put k v xs=xs++[(k,v)]:=by
 induction xs with
 | nil=>rfl
 | cons q r ih =>
  obtain⟨k',v'⟩:=q
  rw[put_cons,if_neg fun e:k'=k=>h (List.mem_cons.mpr (.inl e.symm)),ih fun m=>h (.tail _ m)];rfl
theorem stored_ne {k' k:κ} {c' c:Value} {r:List (κ×Value)} (e:k'≠k):stored ((k',c')::r) k c=(k',c')::stored r k c:=by
 unfold stored
 rw[List.any_cons,decide_eq_false e,Bool.false_or]
 split
 ·rw[List.map_cons,if_neg e]
 ·rfl
theorem stored_eq {k:κ} {c' c:Value} {r:List (κ×Value)} (h:k ∉ r.map (·.1)):stored ((k,c')::r) k c=(k,c)::r:=by
 unfold stored
 rw[List.any_cons,decide_eq_true rfl,Bool.true_or,if_pos rfl,List.map_cons,if_pos rfl]
 exact congrArg (_ :: ·) ((List.map_congr_left (g:=id) fun kv hkv=>if_neg fun e:kv.1=k=>h (List.mem_map.mpr ⟨kv,hkv,e⟩)).trans (List.map_id _))
theorem RepKV.put {g:Gh} {h:Heap} {xs:List (κ×V)} {ys:List (κ×Value)} (x:RepKV g h xs ys) (hn:(ys.map (·.1)).Nodup) {k:κ} {v:V} {c:Value} (a:RepV g h v c):RepKV g h (Mine.put k v xs) (stored ys k c):=by
 induction x with
 | nil=>exact .cons a .nil
 | @cons k' v' c' r r' b x ih =>
  obtain hn:=List.nodup_cons.mp hn
  rw[put_cons]
  by_cases e:k'=k
  ·rw[if_pos e,e,stored_eq (e ▸ hn.1)];exact .cons a x
  ·rw[if_neg e,stored_ne e];exact .cons b (ih hn.2)
end
inductive AO where
 | list (vs:List V)
 | dictI (kvs:List (Int×V)) (ep:Nat)
 | dictS (kvs:List (Str×V))
 | setI (S:Int->Bool) (n:Nat)
 | setP (es:List V) (ep:Nat) (pl:List Nat)
 | inst (C:Addr) (fs:List (Str×V))
 | slots (C:Addr) (fs:List (Option V))
 | iter (l:Addr) (i:Nat)
 | wrap (l:Addr) (i:Nat)
 | exc (x:String)
noncomputable def AO.k:AO->Nat
 | .list _=>1 | .dictI ..=>2 | .dictS _=>3 | .setI ..=>4 | .setP ..=>5 | .inst ..=>6 | .slots ..=>7 | .iter ..=>8 | .wrap ..=>9 | .exc _=>10
noncomputable def okO:Option AO->Nat
 | none=>0
 | some o=>o.k
theorem clA {f:Addr->Option AO} {a b:Addr} {o1 o2:Option AO} {P:Prop} (e1:f a=o1) (e2:f b=o2) (q:b=a) (h:(okO o1 == okO o2)=false:=by rfl):P:=by
 subst q;rw[<- e1,<- e2] at h;exact absurd h (by simp)
theorem clZ {α β:Type} {f:α->Option β} {a b:α} {x:β} {P:Prop} (e1:f a=none) (e2:f b=some x) (q:b=a):P:=by
 subst q;rw[e1] at e2;cases e2
structure St where
 loc:Str->Option V
 hp:Addr->Option AO
noncomputable def St.set (σ:St) (x:Str) (v:V):St:=⟨fun y=>if y=x then some v else σ.loc y,σ.hp⟩
noncomputable def updH (hp:Addr->Option AO) (a:Addr) (o:AO):Addr->Option AO:=fun b=>if b=a then some o else hp b
noncomputable abbrev St.upd (σ:St) (a:Addr) (o:AO):St:=⟨σ.loc,updH σ.hp a o⟩
theorem updH_at {hp:Addr->Option AO} {a:Addr} {o:AO}:updH hp a o a=some o:=if_pos rfl
theorem updH_ne {hp:Addr->Option AO} {a b:Addr} {o:AO} (h:b≠a):updH hp a o b=hp b:=if_neg h
theorem updH_none {hp:Addr->Option AO} {a b:Addr} {o:AO} (h:updH hp a o b=none):b≠a/\hp b=none:=by
 by_cases q:b=a
 ·rw[q,updH_at] at h;cases h
 ·rw[updH_ne q] at h;exact⟨q,h⟩
structure Wd where
 prog:Program
 w:World
 p:Program
 loose:List Str
 mg:Str->Option Value
 mb:Str->Option Value
 hB:Heap
 gens:Array GenState
 os:OsState
noncomputable def Wd.K (d:Wd):Frag:=heap d.w.params
structure Wd.Ok (d:Wd):Prop where
 inK:d.K.In d.hB
 top:TopRead d.p d.loose d.mg d.mb d.hB
inductive RepEs (g:Gh) (h:Heap):List (Str×V)->List DictEntry->Prop
 | nil:RepEs g h [] []
 | cons {k:Str} {t:Tok} {v:V} {c:Value} {hs:Int} {r:List (Str×V)} {r':List DictEntry}:RepV g h v c->RepEs g h r r'->RepEs g h ((k,v)::r) (⟨hs,.str k t,c⟩::r')
inductive RepOs (g:Gh) (h:Heap):List (Option V)->List (Option Value)->Prop
 | nil:RepOs g h [] []
 | no {r:List (Option V)} {r':List (Option Value)}:RepOs g h r r'->RepOs g h (none::r) (none::r')
 | yes {v:V} {c:Value} {r:List (Option V)} {r':List (Option Value)}:RepV g h v c->RepOs g h r r'->RepOs g h (some v::r) (some c::r')
theorem RepOs.mono {g g':Gh} {h h':Heap} (k:∀ a o,g a = .frz->h.get? a=some o->g' a = .frz/\h'.get? a=some o) {xs:List (Option V)} {ys:List (Option Value)} (x:RepOs g h xs ys):RepOs g' h' xs ys:=by
 induction x with
 | nil=>exact .nil
 | no _ ih=>exact .no ih
 | yes a _ ih=>exact .yes (a.mono k) ih
noncomputable abbrev iterObj (l:Addr) (i:Nat):Obj:={ cls:=.type "list_iterator",data:=.fields #[.ref l,.int i 0] }
noncomputable abbrev wrapObj (it:Addr):Obj:={ cls:=.type "method-wrapper",data:=.fields #[.builtin "list_iterator.__next__",.ref it] }
structure XK where
 cls:String
 clean:Bool
variable (d:Wd)
noncomputable def RepO (g:Gh) (h:Heap) (a:Addr):AO->Prop
 | .list vs=>∃ items n,IsL h a items n/\RepVs g h vs items.toList
 | .dictI kvs ep=>∃ ys,h.DictAt (intKind d.prog d.w) a ys ep/\RepKV g h kvs ys
 | .dictS kvs=>∃ ys,h.DictOf (PySem.strKind d.prog d.w) a ys/\RepKV g h kvs ys
 | .setI S n=>h.SetOf (intKind d.prog d.w) a S n
 | .setP es ep pl=>∃ o ents t,h.get? a=some o/\o.ExactSet/\o.data = .set ents ep t/\RepVs g h es (ents.toList.map (·.2))/\t.led = !d.w.params.followText "set-order" /\ t.mask=7/\t.dummies = #[]/\t.place.toList=pl /\
   pl.length=es.length/\es.length<=4/\(es≠[]->t.plain=false)
 | .inst C fs=>∃ dx es n,h.get? a=some (instObj C dx)/\g dx = .own a/\dx≠a/\h.get? dx=some (dictOf es n)/\RepEs g h fs es
 | .slots C fs=>∃ dx es n sl,h.get? a=some ⟨.ref C,some dx,.plain,sl⟩/\g dx = .own a/\dx≠a/\h.get? dx=some (dictOf es n)/\es=[]/\RepOs g h fs sl.toList
 | .iter l i=>h.get? a=some (iterObj l i)
 | .wrap l i=>∃ it,h.get? a=some (wrapObj it)/\g it = .own a/\it≠a/\h.IsListIter it l i
 | .exc x=>∃ oe vs tb otb tvs,h.get? a=some oe/\oe.cls = .type x/\oe.data = .fields vs/\vs[2]? = some Value.none/\vs[1]? = some (.ref tb)/\g tb = .own a/\tb≠a/\h.get? tb=some otb/\otb.data = .fields tvs/\3 < tvs.size
structure FrR (g:Gh) (env:Env) (loc:Str->Option V) (h:Heap):Prop where
 ns:∃ m,h.Ns env.locals m/\∀ x v,loc x=some v->env.kindOf x=some .local->∃ c,m x=some c/\RepV g h v c
 cell:∀ x v,loc x=some v->env.kindOf x=some .cell->∃ a c,env.cells.lookup x=some a/\h.IsCell a (some c)/\RepV g h v c
 own:g env.locals = .own env.locals
 ownc:env.func.isSome=true->∀ x a,env.cells.lookup x=some a->g a = .own env.locals/\a≠env.locals/\∃ v,h.IsCell a v
 ownp:env.func.isSome=false->∀ x a,env.cells.lookup x=some a->g a = .prot/\∃ v,h.IsCell a v
 cinj:∀ x y a,env.cells.lookup x=some a->env.cells.lookup y=some a->x=y
 fn:env.scope.kind = .function
 glob:env.globals=mainGlobals
 bi:env.builtins=builtinsNs
 low:d.hB.objs.size<=env.locals
noncomputable def Frs (g:Gh) (cur:Addr) (h:Heap) (fs:List Env):Prop :=
 ∀ e∈fs,e.scope.kind ≠ .module/\∃ L o,e.frame=some L/\d.hB.objs.size<=L/\(g L = .frm\/L=cur)/\h.get? L=some o/\∃ es n,o.data = .dict es n
structure Rep (g:Gh) (A:Around) (env:Env) (σ:St) (s:Shared):Prop where
 sh:∃ h dr tk,s=⟨h,d.gens,dr,tk,d.os⟩
 base:∀ b o,d.hB.get? b=some o->g b = .frz/\s.heap.get? b=some o
 fr:FrR d g env σ.loc s.heap
 frs:∃ fs,A.frames=some fs/\Frs d g env.locals s.heap fs
 ob:∀ a ao,σ.hp a=some ao->g a = .own a/\a≠env.locals/\d.hB.objs.size<=a/\RepO d g s.heap a ao
 ok:d.Ok
noncomputable def ExcR (g:Gh) (L:Addr) (h:Heap) (x:XK) (e:Value):Prop :=
 ∃ a oe vs,e = .ref a/\g a = .own 0/\L < a/\h.get? a=some oe/\oe.cls = .type x.cls/\oe.data = .fields vs/\(x.clean=true->vs[2]? = some Value.none) /\
  (vs[1]? = some Value.none\/∃ tb otb tvs,vs[1]? = some (.ref tb)/\g tb = .own 0/\tb≠a/\h.get? tb=some otb/\otb.data = .fields tvs/\tvs[3]? = some (rawInt L))
structure Cx where
 A:Around
 env:Env
 X:XK->St->Prop
inductive Fl where
 | next | brk | cont
 | ret (v:V)
inductive RepF (g:Gh) (h:Heap):Fl->Flow->Prop
 | next:RepF g h .next .next
 | brk:RepF g h .brk .brk
 | cont:RepF g h .cont .cont
 | ret {v:V} {c:Value}:RepV g h v c->RepF g h (.ret v) (.ret c)
noncomputable def PostQ {α β:Type} (c:Cx) (g:Gh) (s:Shared) (R:Gh->Heap->β->α->Prop) (K:β->St->Prop) (a:α) (s':Shared):Prop :=
 ∃ g' b σ',Rep d g' c.A c.env σ' s'/\Kp g s.heap g' s'.heap/\R g' s'.heap b a/\K b σ'
noncomputable def PostX (c:Cx) (g:Gh) (s:Shared) (e:Value) (s':Shared):Prop :=
 ∃ g' σ' x,Rep d g' c.A c.env σ' s'/\Kp g s.heap g' s'.heap/\ExcR g' c.env.locals s'.heap x e/\c.X x σ'
theorem PostQ.elim {α β:Type} {d:Wd} {c:Cx} {g:Gh} {s:Shared} {R:Gh->Heap->β->α->Prop} {K:β->St->Prop} {a:α} {s':Shared} {P:Prop} (x:PostQ d c g s R K a s')
  (h:∀ g' b σ',Rep d g' c.A c.env σ' s'->Kp g s.heap g' s'.heap->R g' s'.heap b a->K b σ'->P):P:=elEEEAAA x h
theorem PostX.elim {d:Wd} {c:Cx} {g:Gh} {s:Shared} {e:Value} {s':Shared} {P:Prop} (x:PostX d c g s e s')
  (h:∀ g' σ' x,Rep d g' c.A c.env σ' s'->Kp g s.heap g' s'.heap->ExcR g' c.env.locals s'.heap x e->c.X x σ'->P):P:=elEEEAAA x h
noncomputable def Ev {α β:Type} (c:Cx) (R:Gh->Heap->β->α->Prop) (t:Sem α) (σ:St) (K:β->St->Prop):Prop :=
 ∀ g s,Rep d g c.A c.env σ s->wpAny (model d.prog d.w) c.A t (PostQ d c g s R K) (PostX d c g s) s
noncomputable def REq {α:Type} (_:Gh) (_:Heap) (b a:α):Prop:=a=b
theorem PostQ.kp {α β:Type} {c:Cx} {g E1:Gh} {s J6:Shared} {R:Gh->Heap->β->α->Prop} {K:β->St->Prop} {a:α} {s':Shared} (k:Kp g s.heap E1 J6.heap) (x:PostQ d c E1 J6 R K a s'):PostQ d c g s R K a s' :=
 x.elim fun g' b σ' h1 h2 h3 h4=>⟨g',b,σ',h1,k.trans h2,h3,h4⟩
theorem PostX.kp {c:Cx} {g E1:Gh} {s J6:Shared} {e:Value} {s':Shared} (k:Kp g s.heap E1 J6.heap) (x:PostX d c E1 J6 e s'):PostX d c g s e s' :=
 x.elim fun g' σ' y h1 h2 h3 h4=>⟨g',σ',y,h1,k.trans h2,h3,h4⟩
theorem sh_ch {s:Shared} {gn:Array GenState} {os:OsState} {h':Heap} {t:Nat} (q:∃ h dr tk,s=⟨h,gn,dr,tk,os⟩):∃ h dr tk,({ s with heap:=h',toks:=t }:Shared)=⟨h,gn,dr,tk,os⟩:=elEEE q fun _ dr _ e=>⟨h',dr,t,by rw[e]⟩
variable {d}
theorem Ev.mono {α β:Type} {c:Cx} {R:Gh->Heap->β->α->Prop} {t:Sem α} {σ:St} {K K':β->St->Prop} (x:Ev d c R t σ K) (k:∀ b σ',K b σ'->K' b σ'):Ev d c R t σ K' :=
 fun g s r=>wpAny_mono (x g s r) (fun a s' zz=>zz.elim fun g' b σ' h1 h2 h3 h4=>⟨g',b,σ',h1,h2,h3,k _ _ h4⟩) fun _ _ y=>y
theorem Ev.b {α β:Type} {d:Wd} {c:Cx} {g:Gh} {s s':Shared} {R:Gh->Heap->β->α->Prop} {K:β->St->Prop} {t:Sem α} {Q:α->Shared->Prop} {E:Value->Shared->Prop} (h:wpAny (model d.prog d.w) c.A t (PostQ d c g s R K) E s')
  (k:∀ a J6 E1 b σ1,Rep d E1 c.A c.env σ1 J6->Kp g s.heap E1 J6.heap->R E1 J6.heap b a->K b σ1->Q a J6):wpAny (model d.prog d.w) c.A t Q E s' :=
 wpAny_mono h (fun a J6 zz=>zz.elim (k a J6)) fun _ _ z=>z
theorem Ev.bk {α β:Type} {d:Wd} {c:Cx} {g E0:Gh} {s J5 s':Shared} {R:Gh->Heap->β->α->Prop} {K:β->St->Prop} {t:Sem α} {Q:α->Shared->Prop} (h:wpAny (model d.prog d.w) c.A t (PostQ d c g s R K) (PostX d c g s) s') (kp:Kp E0 J5.heap g s.heap)
  (k:∀ a J6 E1 b σ1,Rep d E1 c.A c.env σ1 J6->Kp g s.heap E1 J6.heap->R E1 J6.heap b a->K b σ1->Q a J6):wpAny (model d.prog d.w) c.A t Q (PostX d c E0 J5) s' :=
 wpAny_mono h (fun a J6 zz=>zz.elim (k a J6)) fun _ _ z=>z.kp d kp
theorem Ev.t {α β:Type} {d:Wd} {c:Cx} {g E0:Gh} {s J5 s':Shared} {R:Gh->Heap->β->α->Prop} {K:β->St->Prop} {t:Sem α} (h:wpAny (model d.prog d.w) c.A t (PostQ d c g s R K) (PostX d c g s) s') (kp:Kp E0 J5.heap g s.heap) :
  wpAny (model d.prog d.w) c.A t (PostQ d c E0 J5 R K) (PostX d c E0 J5) s':=wpAny_mono h (fun _ _ z=>z.kp d kp) fun _ _ z=>z.kp d kp
end
section
variable {d:Wd} {c:Cx} {σ:St}
theorem cl_0 {T:Gh->Shared->List Value->List Value->Prop} (h:∀ g s,Rep d g c.A c.env σ s->T g s [] []):∀ g s xs ys,Rep d g c.A c.env σ s->RepVs g s.heap [] xs->RepVs g s.heap [] ys->T g s xs ys:=fun g s xs ys r rr rk=>by simp only[rr.n,rk.n];exact h g s r
theorem cl_i {i0:Int} {T:Gh->Shared->List Value->List Value->Prop} (h:∀ g s,Rep d g c.A c.env σ s->∀ t0,T g s [(.int i0 t0)] []):∀ g s xs ys,Rep d g c.A c.env σ s->RepVs g s.heap [(.int i0)] xs->RepVs g s.heap [] ys->T g s xs ys:=fun g s xs ys r rr rk=>elEA rr.c1 fun x0 e r0=>elE r0.i fun t0 e0=>by simp only[e,rk.n,e0];exact h g s r t0
theorem cl_ir {i0:Int} {v1:Value} {T:Gh->Shared->List Value->List Value->Prop} (h:∀ g s,Rep d g c.A c.env σ s->∀ t0,T g s [(.int i0 t0),v1] []):∀ g s xs ys,Rep d g c.A c.env σ s->RepVs g s.heap [(.int i0),(.raw v1)] xs->RepVs g s.heap [] ys->T g s xs ys:=fun g s xs ys r rr rk=>elEEAA rr.c2 fun x0 x1 e r0 r1=>elE r0.i fun t0 e0=>by simp only[e,rk.n,e0,r1.r];exact h g s r t0
theorem cl_r {v0:Value} {T:Gh->Shared->List Value->List Value->Prop} (h:∀ g s,Rep d g c.A c.env σ s->T g s [v0] []):∀ g s xs ys,Rep d g c.A c.env σ s->RepVs g s.heap [(.raw v0)] xs->RepVs g s.heap [] ys->T g s xs ys:=fun g s xs ys r rr rk=>elEA rr.c1 fun x0 e r0=>by simp only[e,rk.n,r0.r];exact h g s r
theorem cl_ri {v0:Value} {i1:Int} {T:Gh->Shared->List Value->List Value->Prop} (h:∀ g s,Rep d g c.A c.env σ s->∀ t1,T g s [v0,(.int i1 t1)] []):∀ g s xs ys,Rep d g c.A c.env σ s->RepVs g s.heap [(.raw v0),(.int i1)] xs->RepVs g s.heap [] ys->T g s xs ys:=fun g s xs ys r rr rk=>elEEAA rr.c2 fun x0 x1 e r0 r1=>elE r1.i fun t1 e1=>by simp only[e,rk.n,r0.r,e1];exact h g s r t1
theorem cl_rsr {v0:Value} {i1:Str} {v2:Value} {T:Gh->Shared->List Value->List Value->Prop} (h:∀ g s,Rep d g c.A c.env σ s->∀ t1,T g s [v0,(.str i1 t1),v2] []):∀ g s xs ys,Rep d g c.A c.env σ s->RepVs g s.heap [(.raw v0),(.str i1),(.raw v2)] xs->RepVs g s.heap [] ys->T g s xs ys:=fun g s xs ys r rr rk=>elEEEAAA rr.c3 fun x0 x1 x2 e r0 r1 r2=>elE r1.s fun t1 e1=>by simp only[e,rk.n,r0.r,e1,r2.r];exact h g s r t1
theorem cl_rv {v0:Value} {w1:V} {T:Gh->Shared->List Value->List Value->Prop} (h:∀ g s,Rep d g c.A c.env σ s->∀ x1,RepV g s.heap w1 x1->T g s [v0,x1] []):∀ g s xs ys,Rep d g c.A c.env σ s->RepVs g s.heap [(.raw v0),w1] xs->RepVs g s.heap [] ys->T g s xs ys:=fun g s xs ys r rr rk=>elEEAA rr.c2 fun x0 x1 e r0 r1=>by simp only[e,rk.n,r0.r];exact h g s r x1 r1
theorem cl_t {us0:List V} {T:Gh->Shared->List Value->List Value->Prop} (h:∀ g s,Rep d g c.A c.env σ s->∀ a0 j0 n0,g a0 = .frz->IsT s.heap a0 j0 n0->RepVs g s.heap us0 j0.toList->T g s [(.ref a0)] []):∀ g s xs ys,Rep d g c.A c.env σ s->RepVs g s.heap [(.tup us0)] xs->RepVs g s.heap [] ys->T g s xs ys:=fun g s xs ys r rr rk=>elEA rr.c1 fun x0 e r0=>elEEEAAA r0.t fun a0 j0 n0 f0 q0 z0 e0=>by simp only[e,rk.n,e0];exact h g s r a0 j0 n0 f0 q0 z0
theorem cl_v {w0:V} {T:Gh->Shared->List Value->List Value->Prop} (h:∀ g s,Rep d g c.A c.env σ s->∀ x0,RepV g s.heap w0 x0->T g s [x0] []):∀ g s xs ys,Rep d g c.A c.env σ s->RepVs g s.heap [w0] xs->RepVs g s.heap [] ys->T g s xs ys:=fun g s xs ys r rr rk=>elEA rr.c1 fun x0 e r0=>by simp only[e,rk.n];exact h g s r x0 r0
theorem iv_i {i0:Int} {T:Gh->Shared->Value->Prop} (h:∀ g s,Rep d g c.A c.env σ s->∀ t0,T g s (.int i0 t0)):∀ g s x0,Rep d g c.A c.env σ s->RepV g s.heap (.int i0) x0->T g s x0:=fun g s x0 r r0=>elE r0.i fun t0 e0=>by simp only[e0];exact h g s r t0
theorem iv_ii {i0:Int} {i1:Int} {T:Gh->Shared->Value->Value->Prop} (h:∀ g s,Rep d g c.A c.env σ s->∀ t0,∀ t1,T g s (.int i0 t0) (.int i1 t1)):∀ g s x0 x1,Rep d g c.A c.env σ s->RepV g s.heap (.int i0) x0->RepV g s.heap (.int i1) x1->T g s x0 x1:=fun g s x0 x1 r r0 r1=>elE r0.i fun t0 e0=>elE r1.i fun t1 e1=>by simp only[e0,e1];exact h g s r t0 t1
theorem iv_ir {i0:Int} {v1:Value} {T:Gh->Shared->Value->Value->Prop} (h:∀ g s,Rep d g c.A c.env σ s->∀ t0,T g s (.int i0 t0) v1):∀ g s x0 x1,Rep d g c.A c.env σ s->RepV g s.heap (.int i0) x0->RepV g s.heap (.raw v1) x1->T g s x0 x1:=fun g s x0 x1 r r0 r1=>elE r0.i fun t0 e0=>by simp only[e0,r1.r];exact h g s r t0
theorem iv_lS {us0:List V} {l1 h1 k1:Option Int} {T:Gh->Shared->Value->Value->Prop} (h:∀ g s,Rep d g c.A c.env σ s->∀ a0 j0 n0,g a0 = .frz->IsL s.heap a0 j0 n0->RepVs g s.heap us0 j0.toList->∀ a1 b1 c1 e1,g a1 = .frz->s.heap.IsSliceOf a1 b1 c1 e1->IsPart b1 l1->IsPart c1 h1->IsPart e1 k1->T g s (.ref a0) (.ref a1)):∀ g s x0 x1,Rep d g c.A c.env σ s->RepV g s.heap (.lst us0) x0->RepV g s.heap (.sl l1 h1 k1) x1->T g s x0 x1:=fun g s x0 x1 r r0 r1=>elEEEAAA r0.l fun a0 j0 n0 f0 q0 z0 e0=>elEEEEAAAAA r1.z fun a1 b1 c1 d1 f1 q1 u1 y1 z1 e1=>by simp only[e0,e1];exact h g s r a0 j0 n0 f0 q0 z0 a1 b1 c1 d1 f1 q1 u1 y1 z1
theorem iv_li {us0:List V} {i1:Int} {T:Gh->Shared->Value->Value->Prop} (h:∀ g s,Rep d g c.A c.env σ s->∀ a0 j0 n0,g a0 = .frz->IsL s.heap a0 j0 n0->RepVs g s.heap us0 j0.toList->∀ t1,T g s (.ref a0) (.int i1 t1)):∀ g s x0 x1,Rep d g c.A c.env σ s->RepV g s.heap (.lst us0) x0->RepV g s.heap (.int i1) x1->T g s x0 x1:=fun g s x0 x1 r r0 r1=>elEEEAAA r0.l fun a0 j0 n0 f0 q0 z0 e0=>elE r1.i fun t1 e1=>by simp only[e0,e1];exact h g s r a0 j0 n0 f0 q0 z0 t1
theorem iv_r {v0:Value} {T:Gh->Shared->Value->Prop} (h:∀ g s,Rep d g c.A c.env σ s->T g s v0):∀ g s x0,Rep d g c.A c.env σ s->RepV g s.heap (.raw v0) x0->T g s x0:=fun g s x0 r r0=>by simp only[r0.r];exact h g s r
theorem iv_ri {v0:Value} {i1:Int} {T:Gh->Shared->Value->Value->Prop} (h:∀ g s,Rep d g c.A c.env σ s->∀ t1,T g s v0 (.int i1 t1)):∀ g s x0 x1,Rep d g c.A c.env σ s->RepV g s.heap (.raw v0) x0->RepV g s.heap (.int i1) x1->T g s x0 x1:=fun g s x0 x1 r r0 r1=>elE r1.i fun t1 e1=>by simp only[r0.r,e1];exact h g s r t1
theorem iv_riv {v0:Value} {i1:Int} {w2:V} {T:Gh->Shared->Value->Value->Value->Prop} (h:∀ g s,Rep d g c.A c.env σ s->∀ t1,∀ x2,RepV g s.heap w2 x2->T g s v0 (.int i1 t1) x2):∀ g s x0 x1 x2,Rep d g c.A c.env σ s->RepV g s.heap (.raw v0) x0->RepV g s.heap (.int i1) x1->RepV g s.heap w2 x2->T g s x0 x1 x2:=fun g s x0 x1 x2 r r0 r1 r2=>elE r1.i fun t1 e1=>by simp only[r0.r,e1];exact h g s r t1 x2 r2
theorem iv_rr {v0:Value} {v1:Value} {T:Gh->Shared->Value->Value->Prop} (h:∀ g s,Rep d g c.A c.env σ s->T g s v0 v1):∀ g s x0 x1,Rep d g c.A c.env σ s->RepV g s.heap (.raw v0) x0->RepV g s.heap (.raw v1) x1->T g s x0 x1:=fun g s x0 x1 r r0 r1=>by simp only[r0.r,r1.r];exact h g s r
theorem iv_rs {v0:Value} {i1:Str} {T:Gh->Shared->Value->Value->Prop} (h:∀ g s,Rep d g c.A c.env σ s->∀ t1,T g s v0 (.str i1 t1)):∀ g s x0 x1,Rep d g c.A c.env σ s->RepV g s.heap (.raw v0) x0->RepV g s.heap (.str i1) x1->T g s x0 x1:=fun g s x0 x1 r r0 r1=>elE r1.s fun t1 e1=>by simp only[r0.r,e1];exact h g s r t1
theorem iv_rsv {v0:Value} {i1:Str} {w2:V} {T:Gh->Shared->Value->Value->Value->Prop} (h:∀ g s,Rep d g c.A c.env σ s->∀ t1,∀ x2,RepV g s.heap w2 x2->T g s v0 (.str i1 t1) x2):∀ g s x0 x1 x2,Rep d g c.A c.env σ s->RepV g s.heap (.raw v0) x0->RepV g s.heap (.str i1) x1->RepV g s.heap w2 x2->T g s x0 x1 x2:=fun g s x0 x1 x2 r r0 r1 r2=>elE r1.s fun t1 e1=>by simp only[r0.r,e1];exact h g s r t1 x2 r2
theorem iv_rv {v0:Value} {w1:V} {T:Gh->Shared->Value->Value->Prop} (h:∀ g s,Rep d g c.A c.env σ s->∀ x1,RepV g s.heap w1 x1->T g s v0 x1):∀ g s x0 x1,Rep d g c.A c.env σ s->RepV g s.heap (.raw v0) x0->RepV g s.heap w1 x1->T g s x0 x1:=fun g s x0 x1 r r0 r1=>by rw[r0.r];exact h g s r x1 r1
theorem iv_sr {i0:Str} {v1:Value} {T:Gh->Shared->Value->Value->Prop} (h:∀ g s,Rep d g c.A c.env σ s->∀ t0,T g s (.str i0 t0) v1):∀ g s x0 x1,Rep d g c.A c.env σ s->RepV g s.heap (.str i0) x0->RepV g s.heap (.raw v1) x1->T g s x0 x1:=fun g s x0 x1 r r0 r1=>elE r0.s fun t0 e0=>by simp only[e0,r1.r];exact h g s r t0
theorem iv_t {us0:List V} {T:Gh->Shared->Value->Prop} (h:∀ g s,Rep d g c.A c.env σ s->∀ a0 j0 n0,g a0 = .frz->IsT s.heap a0 j0 n0->RepVs g s.heap us0 j0.toList->T g s (.ref a0)):∀ g s x0,Rep d g c.A c.env σ s->RepV g s.heap (.tup us0) x0->T g s x0:=fun g s x0 r r0=>elEEEAAA r0.t fun a0 j0 n0 f0 q0 z0 e0=>by simp only[e0];exact h g s r a0 j0 n0 f0 q0 z0
theorem iv_tS {us0:List V} {l1 h1 k1:Option Int} {T:Gh->Shared->Value->Value->Prop} (h:∀ g s,Rep d g c.A c.env σ s->∀ a0 j0 n0,g a0 = .frz->IsT s.heap a0 j0 n0->RepVs g s.heap us0 j0.toList->∀ a1 b1 c1 e1,g a1 = .frz->s.heap.IsSliceOf a1 b1 c1 e1->IsPart b1 l1->IsPart c1 h1->IsPart e1 k1->T g s (.ref a0) (.ref a1)):∀ g s x0 x1,Rep d g c.A c.env σ s->RepV g s.heap (.tup us0) x0->RepV g s.heap (.sl l1 h1 k1) x1->T g s x0 x1:=fun g s x0 x1 r r0 r1=>elEEEAAA r0.t fun a0 j0 n0 f0 q0 z0 e0=>elEEEEAAAAA r1.z fun a1 b1 c1 d1 f1 q1 u1 y1 z1 e1=>by simp only[e0,e1];exact h g s r a0 j0 n0 f0 q0 z0 a1 b1 c1 d1 f1 q1 u1 y1 z1
theorem iv_ti {us0:List V} {i1:Int} {T:Gh->Shared->Value->Value->Prop} (h:∀ g s,Rep d g c.A c.env σ s->∀ a0 j0 n0,g a0 = .frz->IsT s.heap a0 j0 n0->RepVs g s.heap us0 j0.toList->∀ t1,T g s (.ref a0) (.int i1 t1)):∀ g s x0 x1,Rep d g c.A c.env σ s->RepV g s.heap (.tup us0) x0->RepV g s.heap (.int i1) x1->T g s x0 x1:=fun g s x0 x1 r r0 r1=>elEEEAAA r0.t fun a0 j0 n0 f0 q0 z0 e0=>elE r1.i fun t1 e1=>by simp only[e0,e1];exact h g s r a0 j0 n0 f0 q0 z0 t1
theorem iv_tv {us0:List V} {w1:V} {T:Gh->Shared->Value->Value->Prop} (h:∀ g s,Rep d g c.A c.env σ s->∀ a0 j0 n0,g a0 = .frz->IsT s.heap a0 j0 n0->RepVs g s.heap us0 j0.toList->∀ x1,RepV g s.heap w1 x1->T g s (.ref a0) x1):∀ g s x0 x1,Rep d g c.A c.env σ s->RepV g s.heap (.tup us0) x0->RepV g s.heap w1 x1->T g s x0 x1:=fun g s x0 x1 r r0 r1=>elEEEAAA r0.t fun a0 j0 n0 f0 q0 z0 e0=>by rw[e0];exact h g s r a0 j0 n0 f0 q0 z0 x1 r1
theorem iv_vr {w0:V} {v1:Value} {T:Gh->Shared->Value->Value->Prop} (h:∀ g s,Rep d g c.A c.env σ s->∀ x0,RepV g s.heap w0 x0->T g s x0 v1):∀ g s x0 x1,Rep d g c.A c.env σ s->RepV g s.heap w0 x0->RepV g s.heap (.raw v1) x1->T g s x0 x1:=fun g s x0 x1 r r0 r1=>by simp only[r1.r];exact h g s r x0 r0
noncomputable abbrev W (d:Wd) (c:Cx) (e:Expr) (σ:St) (K:V->St->Prop):Prop:=Ev d c RepV (eval e c.env) σ K
noncomputable abbrev WT (d:Wd) (c:Cx) (e:Expr) (σ:St) (K:Bool->St->Prop):Prop:=Ev d c REq (isTrue e c.env (eval e c.env)) σ K
noncomputable abbrev WS (d:Wd) (c:Cx) (x:Stmt) (σ:St) (K:Fl->St->Prop):Prop:=Ev d c RepF (exec x c.env) σ K
noncomputable abbrev WB (d:Wd) (c:Cx) (xs:List Stmt) (σ:St) (K:Fl->St->Prop):Prop:=Ev d c RepF (execs xs c.env) σ K
noncomputable abbrev WL (d:Wd) (c:Cx) (pos:Pos) (xs:List Expr) (σ:St) (K:List V->St->Prop):Prop:=Ev d c RepVs (spliced (backTo pos (starEach xs c.env))) σ K
noncomputable def Ev1 {α β:Type} (d:Wd) (c:Cx) (R:Gh->Heap->β->α->Prop) (a:V) (f:Value->Sem α) (σ:St) (K:β->St->Prop):Prop :=
 ∀ g s x,Rep d g c.A c.env σ s->RepV g s.heap a x->wpAny (model d.prog d.w) c.A (f x) (PostQ d c g s R K) (PostX d c g s) s
noncomputable def Ev2 {α β:Type} (d:Wd) (c:Cx) (R:Gh->Heap->β->α->Prop) (a b:V) (f:Value->Value->Sem α) (σ:St) (K:β->St->Prop):Prop :=
 ∀ g s x y,Rep d g c.A c.env σ s->RepV g s.heap a x->RepV g s.heap b y->wpAny (model d.prog d.w) c.A (f x y) (PostQ d c g s R K) (PostX d c g s) s
noncomputable abbrev Bin (d:Wd) (c:Cx) (op:Operator) (a b:V) (σ:St) (K:V->St->Prop):Prop:=Ev2 d c RepV a b (binaryOp op) σ K
noncomputable abbrev Inp (d:Wd) (c:Cx) (op:Operator) (a b:V) (σ:St) (K:V->St->Prop):Prop:=Ev2 d c RepV a b (inplaceOp op) σ K
noncomputable abbrev Cmp (d:Wd) (c:Cx) (op:CmpOp) (a b:V) (σ:St) (K:V->St->Prop):Prop:=Ev2 d c RepV a b (compareOp op) σ K
noncomputable abbrev Tru (d:Wd) (c:Cx) (a:V) (σ:St) (K:Bool->St->Prop):Prop:=Ev1 d c REq a truthy σ K
theorem Rep.tok {g:Gh} {A:Around} {env:Env} {s:Shared} (r:Rep d g A env σ s) (t:Nat):Rep d g A env σ { s with toks:=t } :=
 ⟨sh_ch r.sh,r.base,r.fr,r.frs,r.ob,r.ok⟩
theorem PostQ.here {α β:Type} {g:Gh} {s:Shared} {R:Gh->Heap->β->α->Prop} {K:β->St->Prop} {a:α} {b:β} (r:Rep d g c.A c.env σ s) (x:R g s.heap b a) (k:K b σ):PostQ d c g s R K a s :=
 ⟨g,b,σ,r,Kp.refl ..,x,k⟩
theorem PostQ.tok {α β:Type} {g:Gh} {s:Shared} {R:Gh->Heap->β->α->Prop} {K:β->St->Prop} {a:α} {b:β} {t:Nat} (r:Rep d g c.A c.env σ s) (x:R g s.heap b a) (k:K b σ):PostQ d c g s R K a { s with toks:=t } :=
 ⟨g,b,σ,r.tok t,Kp.refl ..,x,k⟩
theorem W_local {x:Str} {pos:Pos} {v:V} {K:V->St->Prop} (hv:σ.loc x=some v) (h:K v σ) (hl:c.env.kindOf x=some .local:=by rfl)
  (hd:(x == ("__debug__":Str))=false:=by decide):W d c (.Name x pos) σ K:=fun g s r=>by
 refine elEA r.fr.ns fun m hn hm=>?_
 refine elEA (hm x v hv hl) fun cv e rv=>?_
 exact wpAny_Name (wpAny_loadName_local r.fr.fn hl hn e (.here r rv h)) hd
theorem W_cell {x:Str} {pos:Pos} {v:V} {K:V->St->Prop} (hv:σ.loc x=some v) (h:K v σ) (hl:c.env.kindOf x=some .cell:=by rfl)
  (hd:(x == ("__debug__":Str))=false:=by decide):W d c (.Name x pos) σ K:=fun g s r=>by
 refine elEEAA (r.fr.cell x v hv hl) fun a cv e hc rv=>?_
 exact wpAny_Name (wpAny_loadName_cell r.fr.fn hl e hc (.here r rv h)) hd
theorem W_int {i:Int} {k:Nat} {pos:Pos} {K:V->St->Prop} (h:K (.int i) σ):W d c (.Constant (.int i) k pos) σ K :=
 fun g s r=>wpAny_Constant_int (.tok r (.int i _) h)
theorem W_bool {i:Bool} {k:Nat} {pos:Pos} {K:V->St->Prop} (h:K (.bool i) σ):W d c (.Constant (.bool i) k pos) σ K :=
 fun g s r=>Constant_bool (.here r (.raw _) h)
theorem W_none {k:Nat} {pos:Pos} {K:V->St->Prop} (h:K .none σ):W d c (.Constant .none k pos) σ K :=
 fun g s r=>Constant_none (.here r (.raw _) h)
theorem W_str {x:Str} {k:Nat} {pos:Pos} {K:V->St->Prop} (h:K (.str x) σ):W d c (.Constant (.str x) k pos) σ K :=
 fun g s r=>wpAny_mkText (.tok r (.str x _) h)
noncomputable abbrev TruK (d:Wd) (c:Cx) (K:Bool->St->Prop) (v:V) (σ:St):Prop:=Tru d c v σ K
noncomputable abbrev BinK2 (d:Wd) (c:Cx) (op:Operator) (a:V) (K:V->St->Prop) (b:V) (σ:St):Prop:=Bin d c op a b σ K
noncomputable abbrev BinK (d:Wd) (c:Cx) (r:Expr) (op:Operator) (K:V->St->Prop) (a:V) (σ:St):Prop:=W d c r σ (BinK2 d c op a K)
noncomputable abbrev CmpK2 (d:Wd) (c:Cx) (op:CmpOp) (a:V) (K:V->St->Prop) (b:V) (σ:St):Prop:=Cmp d c op a b σ K
noncomputable abbrev CmpK (d:Wd) (c:Cx) (r:Expr) (op:CmpOp) (K:V->St->Prop) (a:V) (σ:St):Prop:=W d c r σ (CmpK2 d c op a K)
noncomputable abbrev UnK (d:Wd) (c:Cx) (op:UnaryOp) (K:V->St->Prop) (a:V) (σ:St):Prop:=Ev1 d c RepV a (unaryOp op) σ K
noncomputable def NotK (K:V->St->Prop) (b:Bool) (σ:St):Prop:=K (.bool (!b)) σ
theorem NotK_t {K:V->St->Prop} {σ:St} (h:K (.bool false) σ):NotK K true σ:=h
theorem NotK_f {K:V->St->Prop} {σ:St} (h:K (.bool true) σ):NotK K false σ:=h
theorem NotK_i {K:V->St->Prop} {b:Bool} {σ:St} (h:K (.bool (!b)) σ):NotK K b σ:=h
noncomputable def NtK (K:Bool->St->Prop) (b:Bool) (σ:St):Prop:=K (!b) σ
theorem NtK_t {K:Bool->St->Prop} {σ:St} (h:K false σ):NtK K true σ:=h
theorem NtK_f {K:Bool->St->Prop} {σ:St} (h:K true σ):NtK K false σ:=h
theorem NtK_i {K:Bool->St->Prop} {b:Bool} {σ:St} (h:K (!b) σ):NtK K b σ:=h
noncomputable def AndK (d:Wd) (c:Cx) (rest:List Expr) (pos:Pos) (K:Bool->St->Prop) (b:Bool) (σ:St):Prop:=if b=true then WT d c (.BoolOp .And rest pos) σ K else K false σ
theorem AndK_t {rest:List Expr} {pos:Pos} {K:Bool->St->Prop} {σ:St} (h:WT d c (.BoolOp .And rest pos) σ K):AndK d c rest pos K true σ:=h
theorem AndK_f {rest:List Expr} {pos:Pos} {K:Bool->St->Prop} {σ:St} (h:K false σ):AndK d c rest pos K false σ:=h
theorem AndK_i {rest:List Expr} {pos:Pos} {K:Bool->St->Prop} {b:Bool} {σ:St} (h:if b=true then WT d c (.BoolOp .And rest pos) σ K else K false σ):AndK d c rest pos K b σ:=h
noncomputable def OrK (d:Wd) (c:Cx) (rest:List Expr) (pos:Pos) (K:Bool->St->Prop) (b:Bool) (σ:St):Prop:=if b=true then K true σ else WT d c (.BoolOp .Or rest pos) σ K
theorem OrK_t {rest:List Expr} {pos:Pos} {K:Bool->St->Prop} {σ:St} (h:K true σ):OrK d c rest pos K true σ:=h
theorem OrK_f {rest:List Expr} {pos:Pos} {K:Bool->St->Prop} {σ:St} (h:WT d c (.BoolOp .Or rest pos) σ K):OrK d c rest pos K false σ:=h
theorem OrK_i {rest:List Expr} {pos:Pos} {K:Bool->St->Prop} {b:Bool} {σ:St} (h:if b=true then K true σ else WT d c (.BoolOp .Or rest pos) σ K):OrK d c rest pos K b σ:=h
noncomputable def AndV2 (d:Wd) (c:Cx) (es:List Expr) (pos:Pos) (v:V) (K:V->St->Prop) (b:Bool) (σ:St):Prop:=if b=true then W d c (.BoolOp .And es pos) σ K else K v σ
theorem AndV2_t {es:List Expr} {pos:Pos} {v:V} {K:V->St->Prop} {σ:St} (h:W d c (.BoolOp .And es pos) σ K):AndV2 d c es pos v K true σ:=h
theorem AndV2_f {es:List Expr} {pos:Pos} {v:V} {K:V->St->Prop} {σ:St} (h:K v σ):AndV2 d c es pos v K false σ:=h
theorem AndV2_i {es:List Expr} {pos:Pos} {v:V} {K:V->St->Prop} {b:Bool} {σ:St} (h:if b=true then W d c (.BoolOp .And es pos) σ K else K v σ):AndV2 d c es pos v K b σ:=h
noncomputable abbrev AndV (d:Wd) (c:Cx) (es:List Expr) (pos:Pos) (K:V->St->Prop) (v:V) (σ:St):Prop:=Tru d c v σ (AndV2 d c es pos v K)
noncomputable def OrV2 (d:Wd) (c:Cx) (es:List Expr) (pos:Pos) (v:V) (K:V->St->Prop) (b:Bool) (σ:St):Prop:=if b=true then K v σ else W d c (.BoolOp .Or es pos) σ K
theorem OrV2_t {es:List Expr} {pos:Pos} {v:V} {K:V->St->Prop} {σ:St} (h:K v σ):OrV2 d c es pos v K true σ:=h
theorem OrV2_f {es:List Expr} {pos:Pos} {v:V} {K:V->St->Prop} {σ:St} (h:W d c (.BoolOp .Or es pos) σ K):OrV2 d c es pos v K false σ:=h
theorem OrV2_i {es:List Expr} {pos:Pos} {v:V} {K:V->St->Prop} {b:Bool} {σ:St} (h:if b=true then K v σ else W d c (.BoolOp .Or es pos) σ K):OrV2 d c es pos v K b σ:=h
noncomputable abbrev OrV (d:Wd) (c:Cx) (es:List Expr) (pos:Pos) (K:V->St->Prop) (v:V) (σ:St):Prop:=Tru d c v σ (OrV2 d c es pos v K)
noncomputable def IfK (d:Wd) (c:Cx) (e1:Expr) (e2:Expr) (K:V->St->Prop) (b:Bool) (σ:St):Prop:=if b=true then W d c e1 σ K else W d c e2 σ K
theorem IfK_t {e1:Expr} {e2:Expr} {K:V->St->Prop} {σ:St} (h:W d c e1 σ K):IfK d c e1 e2 K true σ:=h
theorem IfK_f {e1:Expr} {e2:Expr} {K:V->St->Prop} {σ:St} (h:W d c e2 σ K):IfK d c e1 e2 K false σ:=h
theorem IfK_i {e1:Expr} {e2:Expr} {K:V->St->Prop} {b:Bool} {σ:St} (h:if b=true then W d c e1 σ K else W d c e2 σ K):IfK d c e1 e2 K b σ:=h
noncomputable abbrev LK2 (v:V) (K:List V->St->Prop) (vs:List V) (σ:St):Prop:=K (v::vs) σ
noncomputable abbrev LK (d:Wd) (c:Cx) (pos:Pos) (rest:List Expr) (K:List V->St->Prop) (v:V) (σ:St):Prop:=WL d c pos rest σ (LK2 v K)
theorem W_BinOp {l r:Expr} {op:Operator} {pos:Pos} {K:V->St->Prop} (h:W d c l σ (BinK d c r op K)):W d c (.BinOp l op r pos) σ K :=
 fun g s q=>wpAny_BinOp (Ev.b (h g s q) fun x J6 E1 a σ1 h1 h2 h3 h4=>Ev.bk (h4 E1 J6 h1) h2 fun y J7 E2 b L8 k1 k2 k3 k4 =>
  Ev.t (k4 E2 J7 x y k1 (h3.kp k2) k3) (h2.trans k2))
theorem W_Compare {l r:Expr} {op:CmpOp} {pos:Pos} {K:V->St->Prop} (h:W d c l σ (CmpK d c r op K)) (hm:behindInMarks op r=false:=by with_unfolding_all rfl):W d c (.Compare l [op] [r] pos) σ K :=
 fun g s q=>wpAny_Compare1 (Ev.b (h g s q) fun x J6 E1 a σ1 h1 h2 h3 h4=>Ev.bk (h4 E1 J6 h1) h2 fun y J7 E2 b L8 k1 k2 k3 k4 =>
  Ev.t (k4 E2 J7 x y k1 (h3.kp k2) k3) (h2.trans k2)) hm
theorem WT_Compare {l r:Expr} {op:CmpOp} {pos:Pos} {K:Bool->St->Prop} (h:W d c l σ (CmpK d c r op (TruK d c K))) (hm:behindInMarks op r=false:=by with_unfolding_all rfl):WT d c (.Compare l [op] [r] pos) σ K :=
 fun g s q=>wpAny_isTrue_Compare1 (Ev.b (h g s q) fun x J6 E1 a σ1 h1 h2 h3 h4=>Ev.bk (h4 E1 J6 h1) h2 fun y J7 E2 b L8 k1 k2 k3 k4 =>
  Ev.bk (k4 E2 J7 x y k1 (h3.kp k2) k3) (h2.trans k2) fun z J8 E3 v σ3 l1 l2 l3 l4=>Ev.t (l4 E3 J8 z l1 l3) (h2.trans (k2.trans l2))) hm
theorem W_UnaryOp {x:Expr} {op:UnaryOp} {pos:Pos} {K:V->St->Prop} (h:W d c x σ (UnK d c op K)):W d c (.UnaryOp op x pos) σ K :=
 fun g s q=>UnaryOp_ (Ev.b (h g s q) fun x J6 E1 a σ1 h1 h2 h3 h4=>Ev.t (h4 E1 J6 x h1 h3) h2)
theorem neg_intV {i:Int} {K:V->St->Prop} (h:K (.int (-i)) σ):Ev1 d c RepV (.int i) (unaryOp .USub) σ K:=iv_i fun g s r t=>by
 exact neg_int (.tok r (.int _ _) h)
theorem not_V {a:V} {K:V->St->Prop} (h:Tru d c a σ (NotK K)):Ev1 d c RepV a (unaryOp .Not) σ K:=fun g s x r rx =>
 not_of (Ev.b (h g s x r rx) fun b J6 E1 b' σ1 h1 h2 h3 h4=>by cases h3;exact⟨E1,_,σ1,h1,h2,.raw _,h4⟩)
theorem WT_plain {e:Expr} {K:Bool->St->Prop} (h:W d c e σ (TruK d c K))
  (he:isTrue e c.env (eval e c.env)=(do let v <- eval e c.env;standAt e.pos;holding [v] (truthy v)):=by rfl):WT d c e σ K :=
 fun g s q=>isTrue_plain (Ev.b (h g s q) fun x J6 E1 a σ1 h1 h2 h3 h4=>Ev.t (h4 E1 J6 x h1 h3) h2) he
theorem WT_not {x:Expr} {pos:Pos} {K:Bool->St->Prop} (h:WT d c x σ (NtK K)):WT d c (.UnaryOp .Not x pos) σ K :=
 fun g s q=>isTrue_not (Ev.b (h g s q) fun x J6 E1 a σ1 h1 h2 h3 h4=>by cases h3;exact⟨E1,_,σ1,h1,h2,rfl,h4⟩)
theorem WT_and_nil {pos:Pos} {K:Bool->St->Prop} (h:K true σ):WT d c (.BoolOp .And [] pos) σ K:=fun g s q=>isTrue_and_nil (.here q rfl h)
theorem WT_or_nil {pos:Pos} {K:Bool->St->Prop} (h:K false σ):WT d c (.BoolOp .Or [] pos) σ K:=fun g s q=>isTrue_or_nil (.here q rfl h)
theorem WT_and {x:Expr} {rest:List Expr} {pos:Pos} {K:Bool->St->Prop} (h:WT d c x σ (AndK d c rest pos K)):WT d c (.BoolOp .And (x::rest) pos) σ K :=
 fun g s q=>isTrue_and (Ev.b (h g s q) fun b J6 E1 a σ1 h1 h2 h3 h4=>by
  cases h3
  cases b with
  | true=>exact Ev.t (h4 E1 J6 h1) h2
  | false=>exact⟨E1,_,σ1,h1,h2,rfl,h4⟩)
theorem WT_or {x:Expr} {rest:List Expr} {pos:Pos} {K:Bool->St->Prop} (h:WT d c x σ (OrK d c rest pos K)):WT d c (.BoolOp .Or (x::rest) pos) σ K :=
 fun g s q=>isTrue_or (Ev.b (h g s q) fun b J6 E1 a σ1 h1 h2 h3 h4=>by
  cases h3
  cases b with
  | false=>exact Ev.t (h4 E1 J6 h1) h2
  | true=>exact⟨E1,_,σ1,h1,h2,rfl,h4⟩)
theorem W_bone {op:BoolOp} {e:Expr} {pos:Pos} {K:V->St->Prop} (h:W d c e σ K):W d c (.BoolOp op [e] pos) σ K:=h
theorem W_and {C2 C3:Expr} {rest:List Expr} {pos:Pos} {K:V->St->Prop} (h:W d c C2 σ (AndV d c (C3::rest) pos K)):W d c (.BoolOp .And (C2::C3::rest) pos) σ K :=
 fun g s q=>BoolOp_and (Ev.b (h g s q) fun x J6 E1 a σ1 h1 h2 h3 h4=>Ev.bk (h4 E1 J6 x h1 h3) h2 fun b J7 E2 b' L8 k1 k2 k3 k4=>by
  cases k3
  cases b with
  | true=>exact Ev.t (k4 E2 J7 k1) (h2.trans k2)
  | false=>exact⟨E2,a,L8,k1,h2.trans k2,h3.kp k2,k4⟩)
theorem W_or {C2 C3:Expr} {rest:List Expr} {pos:Pos} {K:V->St->Prop} (h:W d c C2 σ (OrV d c (C3::rest) pos K)):W d c (.BoolOp .Or (C2::C3::rest) pos) σ K :=
 fun g s q=>BoolOp_or (Ev.b (h g s q) fun x J6 E1 a σ1 h1 h2 h3 h4=>Ev.bk (h4 E1 J6 x h1 h3) h2 fun b J7 E2 b' L8 k1 k2 k3 k4=>by
  cases k3
  cases b with
  | false=>exact Ev.t (k4 E2 J7 k1) (h2.trans k2)
  | true=>exact⟨E2,a,L8,k1,h2.trans k2,h3.kp k2,k4⟩)
theorem W_IfExp {test body orelse:Expr} {pos:Pos} {K:V->St->Prop} (h:WT d c test σ (IfK d c body orelse K)):W d c (.IfExp test body orelse pos) σ K :=
 fun g s q=>IfExp_ (Ev.b (h g s q) fun b J6 E1 a σ1 h1 h2 h3 h4=>by
  cases h3
  cases b with
  | true=>exact Ev.t (h4 E1 J6 h1) h2
  | false=>exact Ev.t (h4 E1 J6 h1) h2)
theorem WL_nil {pos:Pos} {K:List V->St->Prop} (h:K [] σ):WL d c pos [] σ K:=fun g s q=>wpAny_items_nil (.here q .nil h)
theorem WL_cons {pos:Pos} {e:Expr} {rest:List Expr} {K:List V->St->Prop} (h:W d c e σ (LK d c pos rest K))
  (he:starEach (e::rest) c.env=(false,eval e c.env)::starEach rest c.env:=by rfl):WL d c pos (e::rest) σ K:=fun g s q=>by
 rw[he]
 refine (?_:wpAny _ _ (spliced ((false,eval e c.env)::backTo pos (starEach rest c.env))) _ _ _)
 refine Calls.spliced_cons (Ev.b (h g s q) fun x J6 E1 a σ1 h1 h2 h3 h4=>?_)
 exact Ev.bk (h4 E1 J6 h1) h2 fun ys J7 E2 vs L8 k1 k2 k3 k4=>⟨E2,a::vs,L8,k1,h2.trans k2,.cons (h3.kp k2) k3,k4⟩
end
section
variable {d:Wd} {c:Cx} {σ:St}
structure Ch (L a:Addr) (g:Gh) (h:Heap) (g':Gh) (h':Heap):Prop where
 keep:∀ x o,h.get? x=some o->g x ≠ .own a->x≠L->g' x=g x/\h'.get? x=some o
 ns:∃ m,h.Ns L m/\h'.Ns L m
 gl:g' L=g L/\g L = .own L
theorem Ch.kp {L a:Addr} {g g':Gh} {h h':Heap} (x:Ch L a g h g' h'):Kp g h g' h':=by
 obtain q:∀ b o (w:Ow),(∀ z,w ≠ .own z)->g b=w->h.get? b=some o->g' b=w/\h'.get? b=some o:=fun b o w hw e eo=>by
  obtain hL:b≠L:=fun z=>hw L (by simp only[<- e,z];exact x.gl.2)
  obtain this:=x.keep b o eo (by simp only[e];exact hw a) hL
  exact⟨this.1.trans e,this.2⟩
 exact⟨fun b o e eo=>q b o .frz (fun _=>Ow.noConfusion) e eo,fun b o e eo=>q b o .prot (fun _=>Ow.noConfusion) e eo,fun b o e eo=>⟨(q b o .frm (fun _=>Ow.noConfusion) e eo).1,o.slots,(q b o .frm (fun _=>Ow.noConfusion) e eo).2⟩⟩
theorem Ow.own_ne {a b:Addr} (h:a≠b):Ow.own a ≠ .own b:=fun e=>h (Ow.inj e)
theorem RepEs.mono {g g':Gh} {h h':Heap} (k:∀ a o,g a = .frz->h.get? a=some o->g' a = .frz/\h'.get? a=some o) {xs:List (Str×V)} {ys:List DictEntry} (x:RepEs g h xs ys):RepEs g' h' xs ys:=by
 induction x with
 | nil=>exact .nil
 | cons a _ ih=>exact .cons (a.mono k) ih
theorem RepO.mv {g g':Gh} {h h':Heap} {b:Addr} {ao:AO} (hs:∀ o,h.get? b=some o->h'.get? b=some o) (x:RepO d g h b ao) (hk:∀ a o,g a = .frz->h.get? a=some o->g' a = .frz/\h'.get? a=some o) (key:∀ y o,g y = .own b->h.get? y=some o->g' y = .own b/\h'.get? y=some o):RepO d g' h' b ao:=by
 cases ao with
 | list vs=>refine elEEA x fun items n e r=>?_;try clear x;exact⟨items,n,hs _ e,r.mono hk⟩
 | dictI kvs ep=>refine elEA x fun ys hn1 r=>?_;try clear x;refine elEEA hn1 fun o es ho z=>?_;try clear hn1;exact⟨ys,⟨o,es,hs _ ho,z⟩,r.mono hk⟩
 | dictS kvs=>refine elEA x fun ys hn1 r=>?_;try clear x;refine elEEEA hn1 fun o es ep ho z=>?_;try clear hn1;exact⟨ys,⟨o,es,ep,hs _ ho,z⟩,r.mono hk⟩
 | setI S n=>refine elEEEEA x fun o es ep t ho z=>?_;try clear x;exact⟨o,es,ep,t,hs _ ho,z⟩
 | setP es ep pl=>refine elEEEAAAA x fun o ents t ho z1 z2 z3 z=>?_;try clear x;exact⟨o,ents,t,hs _ ho,z1,z2,z3.mono hk,z⟩
 | inst C fs =>
  refine elEEE x fun dx es n zz35=>?_;obtain ho:=zz35.1;obtain hg:=zz35.2.1;obtain hx:=zz35.2.2.1;obtain hd:=zz35.2.2.2.1;obtain r:=zz35.2.2.2.2
  try clear x
  exact⟨dx,es,n,hs _ ho,(key _ _ hg hd).1,hx,(key _ _ hg hd).2,r.mono hk⟩
 | slots C fs =>
  refine elEEEE x fun dx es n sl zz161=>?_;obtain ho:=zz161.1;obtain hg:=zz161.2.1;obtain hx:=zz161.2.2.1;obtain zz0:=zz161.2.2.2
  obtain hd:=zz0.1;obtain he:=zz0.2.1;obtain r:=zz0.2.2
  try clear x
  exact⟨dx,es,n,sl,hs _ ho,(key _ _ hg hd).1,hx,(key _ _ hg hd).2,he,r.mono hk⟩
 | iter l i=>exact hs _ x
 | wrap l i=>refine elEAAA x fun it ho hg hn zz0=>?_;refine elEA zz0 fun oi hi z=>?_;try clear x;exact⟨it,hs _ ho,(key _ _ hg hi).1,hn,oi,(key _ _ hg hi).2,z⟩
 | exc n=>refine elEEEE x fun oe vs tb otb zz0=>?_;refine elEAAA zz0 fun tvs ho z1 z2 zz1=>?_;refine elAAAAA zz1 fun z3 z4 hg hn ht z=>?_;try clear x;exact⟨oe,vs,tb,otb,tvs,hs _ ho,z1,z2,z3,z4,(key _ _ hg ht).1,hn,(key _ _ hg ht).2,z⟩
theorem RepO.ch {L a b:Addr} {g g':Gh} {h h':Heap} {ao:AO} (hne:b≠a) (hbL:b≠L) (hb:g b = .own b) (x:RepO d g h b ao) (k:Ch L a g h g' h'):RepO d g' h' b ao :=
 have q:=fun y o (e:g y = .own b) (eo:h.get? y=some o)=>k.keep y o eo (by simp only[e];exact Ow.own_ne hne) fun z=>Ow.own_ne hbL (by simp only[<- e,z];exact k.gl.2)
 x.mv (fun o e=>(q b o hb e).2) k.kp.frz fun y o e eo=>⟨(q y o e eo).1.trans e,(q y o e eo).2⟩
theorem RepO.keepAll {b:Addr} {g:Gh} {h h':Heap} {ao:AO} (hb:g b = .own b) (x:RepO d g h b ao) (k:∀ y o,h.get? y=some o->(∀ a,a≠b->g y ≠ .own a)->h'.get? y=some o):RepO d g h' b ao :=
 have q:=fun y o (e:g y = .own b) (eo:h.get? y=some o)=>k y o eo fun z hz=>by rw[e];exact Ow.own_ne (Ne.symm hz)
 x.mv (fun o e=>q b o hb e) (fun a o e eo=>⟨e,k a o eo fun z _=>by rw[e];exact Ow.noConfusion⟩) fun y o e eo=>⟨e,q y o e eo⟩
theorem IsCell.at {h h':Heap} {a:Addr} {v:Option Value} (x:h.IsCell a v) (k:∀ o,h.get? a=some o->h'.get? a=some o):h'.IsCell a v:=elEA x fun o ho r=>⟨o,k _ ho,r⟩
theorem Ns.uniq {h:Heap} {L:Addr} {m m':Str->Option Value} (x:h.Ns L m) (y:h.Ns L m'):m=m':=by
 refine elEEEAAA x fun o es ep ho hd uu hm=>?_
 try clear x
 refine elEEEAAA y fun o' es' ep' ho' hd' uu hm'=>?_
 try clear y
 rw[ho] at ho';cases ho'
 simp only[hd] at hd';cases hd'
 funext n
 simp only[<- hm n,<- hm' n]
theorem FrR.ch {a:Addr} {g g':Gh} {h h':Heap} {env:Env} {loc:Str->Option V} (hne:a≠env.locals) (x:FrR d g env loc h) (k:Ch env.locals a g h g' h'):FrR d g' env loc h':=by
 obtain hk:=k.kp.frz
 refine elEA x.ns fun m hm0 hm=>?_
 have hcell:∀ y b o,env.cells.lookup y=some b->h.get? b=some o->g' b=g b/\h'.get? b=some o:=fun y b o e eo=>by
  cases hf:env.func.isSome with
  | false=>exact k.keep b o eo (by rw[(x.ownp hf y b e).1];exact Ow.noConfusion) (fun z=>by have:=(x.ownp hf y b e).1;simp only[z,x.own] at this;cases this)
  | true=>exact k.keep b o eo (by rw[(x.ownc hf y b e).1];exact Ow.own_ne (Ne.symm hne)) (x.ownc hf y b e).2.1
 refine ⟨⟨m,?_,fun y v e1 e2=>?_⟩,fun y v e1 e2=>?_,k.gl.1.trans x.own,fun hf y b e=>?_,fun hf y b e=>?_,x.cinj,x.fn,x.glob,x.bi,x.low⟩
 ·refine elEA k.ns fun m' h1 h2=>?_
  simp only[Ns.uniq hm0 h1];exact h2
 ·refine elE (hm y v e1 e2) fun cv zz76=>?_;obtain e3:=zz76.1;obtain r:=zz76.2
  exact⟨cv,e3,r.mono hk⟩
 ·refine elEEAA (x.cell y v e1 e2) fun b cv e3 hc r=>?_
  exact⟨b,cv,e3,IsCell.at hc fun o e=>(hcell _ _ _ e3 e).2,r.mono hk⟩
 ·obtain e1:=(x.ownc hf y b e).1;obtain e2:=(x.ownc hf y b e).2.1;refine elE (x.ownc hf y b e).2.2 fun v hv=>?_
  refine elEA hv fun o ho' hv'=>?_
  try clear hv
  exact⟨(hcell _ _ _ e ho').1.trans e1,e2,v,o,(hcell _ _ _ e ho').2,hv'⟩
 ·refine elAEEA (x.ownp hf y b e) fun e1 v o ho' hv'=>?_
  exact⟨(hcell _ _ _ e ho').1.trans e1,v,o,(hcell _ _ _ e ho').2,hv'⟩
theorem Frs.ch {a cur:Addr} {g g':Gh} {h h':Heap} {fs:List Env} (x:Frs d g cur h fs) (k:Ch cur a g h g' h'):Frs d g' cur h' fs:=fun e he=>by
 obtain e1:=(x e he).1;refine elEEA (x e he).2 fun L o e2 zz0=>?_
 obtain e3:=zz0.1;obtain e4:=zz0.2.1;obtain e5:=zz0.2.2.1;obtain z:=zz0.2.2.2
 by_cases hL:L=cur
 ·refine elEA k.ns fun m uu zz0=>?_;refine elEEEAA zz0 fun o' es ep ho hd uu=>?_
  exact⟨e1,L,o',e2,e3,.inr hL,by simp only[hL];exact ho,es,ep,hd⟩
 ·obtain e4':=e4.resolve_right hL
  obtain this:=k.keep L o e5 (by rw[e4'];exact Ow.noConfusion) hL
  exact⟨e1,L,o,e2,e3,.inl (this.1.trans e4'),this.2,z⟩
theorem Rep.lt {g:Gh} {A:Around} {env:Env} {s:Shared} (r:Rep d g A env σ s) {a:Addr} {ao:AO} (e:σ.hp a=some ao):∃ o,s.heap.get? a=some o:=by
 refine elAAA (r.ob a ao e) fun uu uu uu x=>?_
 cases ao with
 | list vs=>refine elEEA x fun items n e r=>?_;try clear x;exact⟨_,e⟩
 | dictI kvs ep=>refine elEA x fun ys hn1 r=>?_;try clear x;refine elEEA hn1 fun o es ho z=>?_;try clear hn1;exact⟨_,ho⟩
 | dictS kvs=>refine elEA x fun ys hn1 r=>?_;try clear x;refine elEEEA hn1 fun o es ep ho z=>?_;try clear hn1;exact⟨_,ho⟩
 | setI S n=>refine elEEEEA x fun o es ep t ho z=>?_;try clear x;exact⟨_,ho⟩
 | setP es ep pl=>refine elEEEA x fun o ents t ho uu=>?_;try clear x;exact⟨_,ho⟩
 | inst C fs=>refine elEEEA x fun dx es n ho uu=>?_;try clear x;exact⟨_,ho⟩
 | slots C fs=>refine elEEEEA x fun dx es n sl ho uu=>?_;try clear x;exact⟨_,ho⟩
 | iter l i=>exact⟨_,x⟩
 | wrap l i=>refine elEA x fun it ho uu=>?_;try clear x;exact⟨_,ho⟩
 | exc n=>refine elEEEE x fun oe vs tb otb zz0=>?_;refine elEA zz0 fun tvs ho uu=>?_;try clear x;exact⟨_,ho⟩
theorem Rep.but {g g':Gh} {A:Around} {env:Env} {s:Shared} {a:Addr} {h':Heap} {t:Tok} {o:Option AO} (r:Rep d g A env σ s) (k:Ch env.locals a g s.heap g' h') (hne:a≠env.locals)
  (ho:∀ ao,o=some ao->g' a = .own a/\d.hB.objs.size<=a/\RepO d g' h' a ao):Rep d g' A env ⟨σ.loc,fun b=>if b=a then o else σ.hp b⟩ { s with heap:=h',toks:=t }:=by
 refine ⟨sh_ch r.sh,fun b ob e=>?_,r.fr.ch hne k,?_,fun b ao e=>?_,r.ok⟩
 ·refine elA (r.base b ob e) fun e1 e2=>?_
  obtain this:=k.keep b ob e2 (by rw[e1];exact Ow.noConfusion) (fun z=>by simp only[z,r.fr.own] at e1;cases e1)
  exact⟨this.1.trans e1,this.2⟩
 ·refine elEA r.frs fun fs e f=>?_
  exact⟨fs,e,f.ch k⟩
 ·by_cases hba:b=a
  ·subst hba
   simp only[if_pos] at e
   exact⟨(ho ao e).1,hne,(ho ao e).2.1,(ho ao e).2.2⟩
  ·simp only[if_neg hba] at e
   obtain e1:=(r.ob b ao e).1;obtain e2:=(r.ob b ao e).2.1;obtain e3:=(r.ob b ao e).2.2.1;obtain e4:=(r.ob b ao e).2.2.2
   refine elE (r.lt e) fun ob hob=>?_
   exact⟨(k.keep b ob hob (by rw[e1];exact Ow.own_ne hba) e2).1.trans e1,e2,e3,e4.ch hba e2 e1 k⟩
noncomputable def gset (g:Gh) (a:Addr) (x:Ow):Gh:=fun b=>if b=a then x else g b
theorem Rep.chPush {g:Gh} {A:Around} {env:Env} {s:Shared} (r:Rep d g A env σ s) (o:Obj) (x:Ow):Ch env.locals s.heap.objs.size g s.heap (gset g s.heap.objs.size x) (s.heap.push o):=by
 refine elE r.fr.ns fun m zz131=>?_;obtain hm:=zz131.1
 obtain hlt:env.locals < s.heap.objs.size:=hm.lt
 exact⟨fun b ob e _ _=>⟨if_neg (Nat.ne_of_lt (Heap.lt_size e)),Heap.get?_push_of_some _ e⟩,⟨m,hm,hm.push o⟩,if_neg (Nat.ne_of_lt hlt),r.fr.own⟩
theorem Rep.size {g:Gh} {A:Around} {env:Env} {s:Shared} (r:Rep d g A env σ s):env.locals < s.heap.objs.size:=elEA r.fr.ns fun m hm _=>elEEEA hm fun o es ep ho _=>Heap.lt_size ho
theorem Rep.low {g:Gh} {A:Around} {env:Env} {s:Shared} (r:Rep d g A env σ s):d.hB.objs.size<=s.heap.objs.size:=Nat.le_of_lt (Nat.lt_of_le_of_lt r.fr.low r.size)
theorem Rep.fresh {g:Gh} {A:Around} {env:Env} {s:Shared} (r:Rep d g A env σ s):σ.hp s.heap.objs.size=none:=by
 cases q:σ.hp s.heap.objs.size with
 | none=>rfl
 | some ao=>refine elE (r.lt q) fun o e=>?_;exact absurd (Heap.lt_size e) (Nat.lt_irrefl _)
theorem St.same {σ:St} {a:Addr} (h:σ.hp a=none):(⟨σ.loc,fun b=>if b=a then none else σ.hp b⟩:St)=σ:=by
 cases σ with
 | mk l p =>
  congr 1
  funext b
  by_cases e:b=a
  ·rw[if_pos e,e];exact h.symm
  ·rw[if_neg e]
theorem Rep.pushed {g:Gh} {A:Around} {env:Env} {s:Shared} (r:Rep d g A env σ s) (o:Obj) (x:Ow) (t:Tok):Rep d (gset g s.heap.objs.size x) A env σ { s with heap:=s.heap.push o,toks:=t }:=by
 obtain this:=r.but (o:=none) (t:=t) (r.chPush o x) (Nat.ne_of_gt r.size) (fun _ e=>nomatch e)
 rwa [St.same r.fresh] at this
theorem Rep.made {g:Gh} {A:Around} {env:Env} {s:Shared} (r:Rep d g A env σ s) (o:Obj) (ao:AO) (t:Tok) (h:RepO d (gset g s.heap.objs.size (.own s.heap.objs.size)) (s.heap.push o) s.heap.objs.size ao) :
  Rep d (gset g s.heap.objs.size (.own s.heap.objs.size)) A env (σ.upd s.heap.objs.size ao) { s with heap:=s.heap.push o,toks:=t } :=
 r.but (o:=some ao) (t:=t) (r.chPush o _) (Nat.ne_of_gt r.size) (fun ao' e=>by cases e;exact⟨if_pos rfl,r.low,h⟩)
theorem gset_self (g:Gh) (a:Addr) (x:Ow):gset g a x a=x:=if_pos rfl
noncomputable abbrev TupK (K:V->St->Prop) (vs:List V) (σ:St):Prop:=vs.length<=1000/\K (.tup vs) σ
noncomputable abbrev LstK (K:V->St->Prop) (vs:List V) (σ:St):Prop:=vs.length<=1000/\K (.lst vs) σ
noncomputable abbrev LsmK (K:V->St->Prop) (vs:List V) (σ:St):Prop:=vs.length<=1000/\∀ a,σ.hp a=none->K (.obj a) (σ.upd a (.list vs))
theorem W_Tuple {elts:List Expr} {k:Nat} {pos:Pos} {K:V->St->Prop} (h:WL d c pos elts σ (TupK K)):W d c (.Tuple elts k pos) σ K :=
 fun g s q=>wpAny_Tuple_spliced (Ev.b (h g s q) fun cs J6 E1 vs σ1 h1 h2 h3 zk=>elA zk fun h4 h5 =>
  ⟨by rw[<- h3.length];exact Nat.le_trans h4 (by simp only[sizeLine_eq];walk_at "o"),gset E1 J6.heap.objs.size .frz,.tup vs,σ1,h1.pushed _ .frz J6.toks,h2.trans (h1.chPush _ _).kp,
   .tup (gset_self ..) (IsT.new ..) (by simpa using h3.kp (h1.chPush _ _).kp),h5⟩)
theorem W_List {elts:List Expr} {pos:Pos} {K:V->St->Prop} (h:WL d c pos elts σ (LstK K)):W d c (.List elts pos) σ K :=
 fun g s q=>wpAny_List_spliced (Ev.b (h g s q) fun cs J6 E1 vs σ1 h1 h2 h3 zk=>elA zk fun h4 h5 =>
  ⟨by rw[<- h3.length];exact Nat.le_trans h4 (by simp only[sizeLine_eq];exact Y8),gset E1 J6.heap.objs.size .frz,.lst vs,σ1,h1.pushed _ .frz J6.toks,h2.trans (h1.chPush _ _).kp,
   .lst (gset_self ..) (IsL.new ..) (by simpa using h3.kp (h1.chPush _ _).kp),h5⟩)
theorem W_ListM {elts:List Expr} {pos:Pos} {K:V->St->Prop} (h:WL d c pos elts σ (LsmK K)):W d c (.List elts pos) σ K :=
 fun g s q=>wpAny_List_spliced (Ev.b (h g s q) fun cs J6 E1 vs σ1 h1 h2 h3 zk=>elA zk fun h4 h5 =>
  ⟨by rw[<- h3.length];exact Nat.le_trans h4 (by simp only[sizeLine_eq];exact Y8),gset E1 J6.heap.objs.size (.own J6.heap.objs.size),.obj J6.heap.objs.size,_,
   h1.made _ (.list vs) J6.toks ⟨_,_,IsL.new ..,by simpa using h3.kp (h1.chPush _ _).kp⟩,h2.trans (h1.chPush _ _).kp,.raw _,h5 _ h1.fresh⟩)
theorem W_DictI {pos:Pos} {K:V->St->Prop} (h:∀ a ep,σ.hp a=none->K (.obj a) (σ.upd a (.dictI [] ep))):W d c (.Dict [] [] pos) σ K :=
 fun g s q=>wpAny_Dict_empty ⟨gset g s.heap.objs.size (.own s.heap.objs.size),.obj s.heap.objs.size,_,q.made _ (.dictI [] 0) s.toks ⟨[],⟨_,_,Heap.get?_push_size _ rfl,⟨rfl,rfl,rfl⟩,rfl,(fun e he=>by simp at he),Pairs.nil,List.nodup_nil⟩,.nil⟩,(q.chPush _ _).kp,.raw _,h _ _ q.fresh⟩
theorem W_DictS {pos:Pos} {K:V->St->Prop} (h:∀ a,σ.hp a=none->K (.obj a) (σ.upd a (.dictS []))):W d c (.Dict [] [] pos) σ K :=
 fun g s q=>wpAny_Dict_empty ⟨gset g s.heap.objs.size (.own s.heap.objs.size),.obj s.heap.objs.size,_,q.made _ (.dictS []) s.toks ⟨[],Heap.DictOf.new ..,.nil⟩,(q.chPush _ _).kp,.raw _,h _ q.fresh⟩
theorem Rep.stored {g:Gh} {A:Around} {env:Env} {s:Shared} {x:Str} {v:V} {cv:Value} {h':Heap} {m:Str->Option Value} {t:Tok} (r:Rep d g A env σ s) (rv:RepV g s.heap v cv) (hl:env.kindOf x=some .local)
  (hm:∀ y v,σ.loc y=some v->env.kindOf y=some .local->∃ c,m y=some c/\RepV g s.heap v c)
  (hn:h'.Ns env.locals fun y=>if y=x then some cv else m y) (hs:Heap.SameBut env.locals s.heap h'):Rep d g A env (σ.set x v) { s with heap:=h',toks:=t }/\Kp g s.heap g h':=by
 obtain hL:=r.fr.own
 have ne:∀ {y:Addr},g y ≠ .own env.locals->y≠env.locals:=fun q e=>q (e ▸ hL)
 have kp:Kp g s.heap g h' :=
  ⟨fun a o e eo=>⟨e,(hs.2 a (ne (by simp only[e];exact Ow.noConfusion))).trans eo⟩,fun a o e eo=>⟨e,(hs.2 a (ne (by rw[e];exact Ow.noConfusion))).trans eo⟩,
   fun a o e eo=>⟨e,o.slots,(hs.2 a (ne (by simp only[e];exact Ow.noConfusion))).trans eo⟩⟩
 refine ⟨⟨sh_ch r.sh,fun b ob e=>?_,⟨⟨_,hn,fun y w e1 e2=>?_⟩,fun y w e1 e2=>?_,hL,fun hf y b e=>?_,fun hf y b e=>?_,r.fr.cinj,r.fr.fn,r.fr.glob,r.fr.bi,r.fr.low⟩,?_,fun b ao e=>?_,r.ok⟩,kp⟩
 ·obtain e1:=(r.base b ob e).1;obtain e2:=(r.base b ob e).2
  exact⟨e1,(hs.2 b (ne (by rw[e1];exact Ow.noConfusion))).trans e2⟩
 ·by_cases hy:y=x
  ·rw[if_pos hy]
   simp only[St.set,if_pos hy] at e1
   cases e1
   exact⟨cv,rfl,rv.kp kp⟩
  ·rw[if_neg hy]
   simp only[St.set,if_neg hy] at e1
   refine elEA (hm y w e1 e2) fun c e3 r3=>?_
   exact⟨c,e3,r3.kp kp⟩
 ·have hy:y≠x:=fun q=>by simp only[q,hl] at e2;cases e2
  simp only[St.set,if_neg hy] at e1
  refine elEE (r.fr.cell y w e1 e2) fun b c zz205=>?_;obtain e3:=zz205.1;obtain hc:=zz205.2.1;obtain r3:=zz205.2.2
  obtain this:b≠env.locals:=by
   cases hf:env.func.isSome with
   | true=>exact (r.fr.ownc hf y b e3).2.1
   | false=>exact ne (by rw[(r.fr.ownp hf y b e3).1];exact Ow.noConfusion)
  exact⟨b,c,e3,IsCell.at hc fun o e=>(hs.2 b this).trans e,r3.kp kp⟩
 ·refine elAAE (r.fr.ownc hf y b e) fun e1 e2 v hv=>?_
  exact⟨e1,e2,v,IsCell.at hv fun o e=>(hs.2 b e2).trans e⟩
 ·refine elAE (r.fr.ownp hf y b e) fun e1 v hv=>?_
  exact⟨e1,v,IsCell.at hv fun o e=>(hs.2 b (ne (by rw[e1];exact Ow.noConfusion))).trans e⟩
 ·refine elEA r.frs fun fs e f=>?_
  refine ⟨fs,e,fun en he=>?_⟩
  refine elAEEA (f en he) fun e1 L o e2 zz0=>?_
  obtain e3:=zz0.1;obtain e4:=zz0.2.1;obtain e5:=zz0.2.2.1;obtain zz1:=zz0.2.2.2
  refine elEE zz1 fun es n e6=>?_
  by_cases hL':L=env.locals
  ·refine elEEEAA hn fun o' es' ep' ho' hd' uu=>?_;try clear hn
   exact⟨e1,L,o',e2,e3,e4,by simp only[hL'];exact ho',es',ep',hd'⟩
  ·exact⟨e1,L,o,e2,e3,e4,(hs.2 L hL').trans e5,es,n,e6⟩
 ·refine elAAA (r.ob b ao e) fun e1 e2 e3 e4=>?_
  exact⟨e1,e2,e3,e4.keepAll e1 fun y o ey hy=>(hs.2 y (ne (hy env.locals (Ne.symm e2)))).trans ey⟩
end
section
variable {d:Wd} {c:Cx} {σ:St}
theorem Rep.storedC {g:Gh} {A:Around} {env:Env} {s:Shared} {x:Str} {v:V} {cv:Value} {h':Heap} {a:Addr} (r:Rep d g A env σ s) (rv:RepV g s.heap v cv) (hl:env.kindOf x=some .cell) (hf:env.func.isSome=true)
  (hc:env.cells.lookup x=some a) (hn:h'.IsCell a (some cv)) (hs:Heap.SameBut a s.heap h'):Rep d g A env (σ.set x v) { s with heap:=h' }/\Kp g s.heap g h':=by
 refine elAA (r.fr.ownc hf x a hc) fun ga haL uu=>?_
 have ne:∀ {y:Addr},g y ≠ .own env.locals->y≠a:=fun q e=>q (e ▸ ga)
 have kp:Kp g s.heap g h' :=
  ⟨fun a o e eo=>⟨e,(hs.2 a (ne (by rw[e];exact Ow.noConfusion))).trans eo⟩,fun a o e eo=>⟨e,(hs.2 a (ne (by rw[e];exact Ow.noConfusion))).trans eo⟩,
   fun a o e eo=>⟨e,o.slots,(hs.2 a (ne (by rw[e];exact Ow.noConfusion))).trans eo⟩⟩
 obtain hL:=Ne.symm haL
 refine elEA r.fr.ns fun m hm0 hm=>?_
 refine ⟨⟨sh_ch r.sh,fun b ob e=>?_,⟨⟨m,hm0.sameBut hs hL,fun y w e1 e2=>?_⟩,fun y w e1 e2=>?_,r.fr.own,fun hf y b e=>?_,fun hf'=>(by rw[hf] at hf';cases hf'),r.fr.cinj,r.fr.fn,r.fr.glob,r.fr.bi,r.fr.low⟩,?_,fun b ao e=>?_,r.ok⟩,kp⟩
 ·refine elA (r.base b ob e) fun e1 e2=>?_
  exact⟨e1,(hs.2 b (ne (by rw[e1];exact Ow.noConfusion))).trans e2⟩
 ·have hy:y≠x:=fun q=>by rw[q,hl] at e2;cases e2
  simp only[St.set,if_neg hy] at e1
  refine elEA (hm y w e1 e2) fun c e3 r3=>?_
  exact⟨c,e3,r3.kp kp⟩
 ·by_cases hy:y=x
  ·simp only[St.set,if_pos hy] at e1
   cases e1
   exact⟨a,cv,by rw[hy];exact hc,hn,rv.kp kp⟩
  ·simp only[St.set,if_neg hy] at e1
   refine elEEAA (r.fr.cell y w e1 e2) fun b c e3 hc' r3=>?_
   obtain this:b≠a:=fun q=>hy (r.fr.cinj y x a (q ▸ e3) hc)
   exact⟨b,c,e3,hc'.sameBut hs this,r3.kp kp⟩
 ·refine elAAE (r.fr.ownc hf y b e) fun e1 e2 v' hv=>?_
  by_cases q:b=a
  ·exact⟨e1,e2,some cv,by rw[q];exact hn⟩
  ·exact⟨e1,e2,v',hv.sameBut hs q⟩
 ·refine elEA r.frs fun fs e f=>?_
  refine ⟨fs,e,fun en he=>?_⟩
  refine elAEEA (f en he) fun e1 L o e2 zz0=>?_
  refine elAAA zz0 fun e3 e4 e5 zz1=>?_
  refine elEE zz1 fun es n e6=>?_
  obtain this:L≠a:=by
   rcases e4 with q | q
   ·exact ne (by rw[q];exact Ow.noConfusion)
   ·rw[q];exact hL
  exact⟨e1,L,o,e2,e3,e4,(hs.2 L this).trans e5,es,n,e6⟩
 ·refine elAAA (r.ob b ao e) fun e1 e2 e3 e4=>?_
  exact⟨e1,e2,e3,e4.keepAll e1 fun y o ey hy=>(hs.2 y (ne (hy env.locals (Ne.symm e2)))).trans ey⟩
noncomputable abbrev Asg (d:Wd) (c:Cx) (t:Expr) (v:V) (σ:St) (K:Unit->St->Prop):Prop:=Ev1 d c REq v (assign t c.env) σ K
theorem storeL {x:Str} {v:V} {K:Unit->St->Prop} (h:K () (σ.set x v)) (hl:c.env.kindOf x=some .local):Ev1 d c REq v (storeName c.env x) σ K:=fun g s y r ry=>by
 refine elEA r.fr.ns fun m hn hm=>?_
 refine wpAny_storeName_local hl hn (fun h' hn' hs=>?_) (by rw[r.fr.fn];rfl)
 refine elA (r.stored (t:=s.toks+1) ry hl hm hn' hs) fun r' k=>?_
 exact⟨g,(),_,r',k,rfl,h⟩
theorem storeC {x:Str} {v:V} {K:Unit->St->Prop} (h:K () (σ.set x v)) (hl:c.env.kindOf x=some .cell) (hf:c.env.func.isSome=true) (hc:(c.env.cells.lookup x).isSome=true):Ev1 d c REq v (storeName c.env x) σ K:=fun g s y r ry=>by
 refine elE (Option.isSome_iff_exists.mp hc) fun a hc=>?_
 refine elAAE (r.fr.ownc hf x a hc) fun uu uu L0 hv=>?_
 refine wpAny_storeName_cell r.fr.fn hl hc hv fun h' hn' hs=>?_
 refine elA (r.storedC ry hl hf hc hn' hs) fun r' k=>?_
 exact⟨g,(),_,r',k,rfl,h⟩
theorem A_local {x:Str} {pos:Pos} {v:V} {K:Unit->St->Prop} (h:K () (σ.set x v)) (hl:c.env.kindOf x=some .local:=by rfl):Asg d c (.Name x pos) v σ K:=fun g s y r ry =>
 wpAny_assign_Name (storeL h hl g s y r ry)
theorem A_cell {x:Str} {pos:Pos} {v:V} {K:Unit->St->Prop} (h:K () (σ.set x v)) (hl:c.env.kindOf x=some .cell:=by rfl) (hf:c.env.func.isSome=true:=by rfl) (hc:(c.env.cells.lookup x).isSome=true:=by rfl):Asg d c (.Name x pos) v σ K:=fun g s y r ry =>
 wpAny_assign_Name (storeC h hl hf hc g s y r ry)
theorem WB_nil {K:Fl->St->Prop} (h:K .next σ):WB d c [] σ K:=fun g s r=>wpAny_execs_nil (.here r .next h)
noncomputable def Then (d:Wd) (c:Cx) (rest:List Stmt) (K:Fl->St->Prop) (f:Fl) (σ:St):Prop:=match f with
 | .next=>WB d c rest σ K
 | f=>K f σ
noncomputable def FK (side:(Addr->Option AO)->Prop) (K:Fl->St->Prop) (nx:St->Prop) (f:Fl) (σ:St):Prop:=match f with
 | .next | .cont=>side σ.hp/\nx σ
 | .brk=>K .next σ
 | .ret v=>K (.ret v) σ
noncomputable def FW (K:Fl->St->Prop) (nx:St->Prop) (f:Fl) (σ:St):Prop:=match f with
 | .next | .cont=>nx σ
 | .brk=>K .next σ
 | .ret v=>K (.ret v) σ
noncomputable def KF (K:V->St->Prop) (σ:St) (f:Fl) (σ':St):Prop:=K (match f with | .ret v=>v | _=>.none) ⟨σ.loc,σ'.hp⟩
theorem WB_cons {x:Stmt} {rest:List Stmt} {K:Fl->St->Prop} (h:WS d c x σ (Then d c rest K)):WB d c (x::rest) σ K:=fun g s r =>
 wpAny_execs_cons (Ev.b (h g s r) fun f J6 E1 b σ1 h1 h2 h3 h4=>by
  cases h3 with
  | next=>exact Ev.t (h4 E1 J6 h1) h2
  | brk=>exact⟨E1,_,σ1,h1,h2,.brk,h4⟩
  | cont=>exact⟨E1,_,σ1,h1,h2,.cont,h4⟩
  | ret q=>exact⟨E1,_,σ1,h1,h2,.ret q,h4⟩)
noncomputable abbrev RetK (K:Fl->St->Prop) (v:V) (σ:St):Prop:=K (.ret v) σ
noncomputable abbrev NxK (K:Fl->St->Prop) (v:V) (σ:St):Prop:=K .next σ
noncomputable def IfS (d:Wd) (c:Cx) (s1:List Stmt) (s2:List Stmt) (K:Fl->St->Prop) (b:Bool) (σ:St):Prop:=if b=true then WB d c s1 σ K else WB d c s2 σ K
theorem IfS_t {s1:List Stmt} {s2:List Stmt} {K:Fl->St->Prop} {σ:St} (h:WB d c s1 σ K):IfS d c s1 s2 K true σ:=h
theorem IfS_f {s1:List Stmt} {s2:List Stmt} {K:Fl->St->Prop} {σ:St} (h:WB d c s2 σ K):IfS d c s1 s2 K false σ:=h
theorem IfS_i {s1:List Stmt} {s2:List Stmt} {K:Fl->St->Prop} {b:Bool} {σ:St} (h:if b=true then WB d c s1 σ K else WB d c s2 σ K):IfS d c s1 s2 K b σ:=h
theorem WS_Break {pos:Pos} {K:Fl->St->Prop} (h:K .brk σ):WS d c (.Break pos) σ K:=fun g s r=>wpAny_Break (.here r .brk h)
theorem WS_Continue {pos:Pos} {K:Fl->St->Prop} (h:K .cont σ):WS d c (.Continue pos) σ K:=fun g s r=>wpAny_Continue (.here r .cont h)
theorem WS_Return {e:Expr} {pos:Pos} {K:Fl->St->Prop} (h:W d c e σ (RetK K)):WS d c (.Return (some e) pos) σ K:=fun g s r =>
 wpAny_Return_some (Ev.b (h g s r) fun v J6 E1 b σ1 h1 h2 h3 h4=>⟨E1,_,σ1,h1,h2,.ret h3,h4⟩)
theorem WS_ReturnN {pos:Pos} {K:Fl->St->Prop} (h:K (.ret .none) σ):WS d c (.Return none pos) σ K:=fun g s r=>wpAny_Return_none (.here r (.ret (.raw _)) h)
theorem WS_If {test:Expr} {body orelse:List Stmt} {pos:Pos} {K:Fl->St->Prop} (h:WT d c test σ (IfS d c body orelse K)):WS d c (.If test body orelse pos) σ K:=fun g s r =>
 wpAny_If (Ev.b (h g s r) fun b J6 E1 b' σ1 h1 h2 h3 h4=>by
  cases h3
  cases b with
  | true=>exact Ev.t (h4 E1 J6 h1) h2
  | false=>exact Ev.t (h4 E1 J6 h1) h2)
theorem WS_Expr {e:Expr} {pos:Pos} {K:Fl->St->Prop} (h:W d c e σ (NxK K)) (hi:interactive c.env=false:=by rfl) (hs:swapsWith e none pos.line c.env=pure false:=by rfl):WS d c (.Expr e pos) σ K:=fun g s r =>
 wpAny_Expr_any (Ev.b (h g s r) fun v J6 E1 b σ1 h1 h2 h3 h4=>⟨E1,_,σ1,h1,h2,.next,h4⟩) hi hs
theorem exec_AssignN {env:Env} (ts:List Expr) (value:Expr) (pos:Pos) (hs:swapsWithSole ts value pos.line env=pure false) (hw:swappedStores ts value env=pure none):exec (.Assign ts value pos) env=(do
  standAt pos
  let v <- eval value env
  assignAll v ((assignEach ts env).map (·.2))
  pure .next):=by
 obtain e:exec (.Assign ts value pos) env=(do
   standAt pos
   if <- swapsWithSole ts value pos.line env then do
    evalThenUse value env fun v=>assignAll v ((assignEach ts env).map (·.2))
    pure .next
   else do
    let v <- eval value env
    assignStores env v (<- swappedStores ts value env) ((assignEach ts env).map (·.2))):=rfl
 rw[e,hs,hw];rfl
noncomputable def AsgAll (d:Wd) (c:Cx):List Expr->V->St->(St->Prop)->Prop
 | [],_,σ,K=>K σ
 | t::ts,v,σ,K=>Asg d c t v σ fun _ σ1=>AsgAll d c ts v σ1 K
noncomputable def plainTarget (e:Expr):Bool:=e.ctorIdx != 22
theorem assignEach_plain (t:Expr) (ts:List Expr) (env:Env) (h:plainTarget t=true):assignEach (t::ts) env=(false,assign t env)::assignEach ts env:=by
 cases t<;>first | rfl | cases h
theorem asgAll {ts:List Expr} (hp:ts.all plainTarget=true):∀ {v:V} {σ:St} {K:St->Prop} {g:Gh} {s:Shared} {x:Value},AsgAll d c ts v σ K->Rep d g c.A c.env σ s->RepV g s.heap v x ->
  wpAny (model d.prog d.w) c.A (assignAll x ((assignEach ts c.env).map (·.2))) (PostQ d c g s REq fun (_:Unit) σ'=>K σ') (PostX d c g s) s:=by
 induction ts with
 | nil=>intro v σ K g s x h r rx;exact wpAny_pure (.here r rfl h)
 | cons t ts ih =>
  intro v σ K g s x h r rx
  rw[List.all_cons,Bool.and_eq_true] at hp
  rw[assignEach_plain t ts c.env hp.1]
  cases ts with
  | nil=>exact wpAny_mono (h g s x r rx) (fun _ _ z=>z) fun _ _ z=>z
  | cons t' ts' =>
   have e:(assignEach (t'::ts') c.env).map (·.2)=assign t' c.env::(assignEach ts' c.env).map (·.2):=by
    rw[assignEach_plain t' ts' c.env (by simp[List.all_cons] at hp;exact hp.2.1)];rfl
   show wpAny _ _ (assignAll x (assign t c.env::(assignEach (t'::ts') c.env).map (·.2))) _ _ _
   obtain ih':=@ih hp.2
   rw[e] at ih' ⊢
   show wpAny _ _ (do holding [x] (assign t c.env x);assignAll x (assign t' c.env::(assignEach ts' c.env).map (·.2))) _ _ _
   exact wpAny_bind (wpAny_holding (Ev.b (h g s x r rx) fun uu J6 E1 b σ1 h1 h2 h3 h4=>Ev.t (ih' h4 h1 (rx.kp h2)) h2))
noncomputable abbrev AsK (d:Wd) (c:Cx) (ts:List Expr) (K:Fl->St->Prop) (v:V) (σ:St):Prop:=AsgAll d c ts v σ (K .next)
noncomputable abbrev UK (K:St->Prop) (u:Unit) (σ:St):Prop:=K σ
theorem WS_Assign {ts:List Expr} {value:Expr} {pos:Pos} {K:Fl->St->Prop} (h:W d c value σ (AsK d c ts K)) (hp:ts.all plainTarget=true:=by rfl)
  (hs:swapsWithSole ts value pos.line c.env=pure false:=by rfl) (hw:swappedStores ts value c.env=pure none:=by rfl):WS d c (.Assign ts value pos) σ K:=fun g s r=>by
 rw[exec_AssignN ts value pos hs hw]
 refine wpAny_bind (wpAny_standAt (wpAny_bind (Ev.b (h g s r) fun x J6 E1 a σ1 h1 h2 h3 h4=>wpAny_bind (Ev.bk (asgAll hp h4 h1 h3) h2 fun uu J7 E2 b L8 k1 k2 k3 k4=>?_))))
 exact wpAny_pure ⟨E2,_,L8,k1,h2.trans k2,.next,k4⟩
theorem AsgAll_one {t:Expr} {v:V} {K:St->Prop} (h:Asg d c t v σ (UK K)):AsgAll d c [t] v σ K:=h
theorem AsgAll_two {t u:Expr} {v:V} {K:St->Prop} (h:Asg d c t v σ fun _ σ1=>Asg d c u v σ1 fun _ L8=>K L8):AsgAll d c [t,u] v σ K:=h
theorem ev_loadName {x:Str} {v:V} {K:V->St->Prop} (hv:σ.loc x=some v) (h:K v σ) (hl:c.env.kindOf x=some .local\/c.env.kindOf x=some .cell):Ev d c RepV (loadName c.env x) σ K:=fun g s r=>by
 rcases hl with hl | hl
 ·refine elEA r.fr.ns fun m hn hm=>?_
  refine elEA (hm x v hv hl) fun cv e rv=>?_
  exact wpAny_loadName_local r.fr.fn hl hn e (.here r rv h)
 ·refine elEEAA (r.fr.cell x v hv hl) fun a cv e hc rv=>?_
  exact wpAny_loadName_cell r.fr.fn hl e hc (.here r rv h)
theorem WS_AugName {x:Str} {np pos:Pos} {op:Operator} {value:Expr} {v:V} {K:Fl->St->Prop} (hv:σ.loc x=some v) (h:W d c value σ fun b σ1=>Inp d c op v b σ1 fun n L8=>Ev1 d c REq n (storeName c.env x) L8 fun _ σ3=>K .next σ3)
  (hl:c.env.kindOf x=some .local:=by rfl):WS d c (.AugAssign (.Name x np) op value pos) σ K:=fun g s r=>by
 refine wpAny_AugAssign_Name (Ev.b (ev_loadName (K:=fun a σ1=>a=v/\σ1=σ) hv ⟨rfl,rfl⟩ (.inl hl) g s r) fun L4 J6 E1 a σ1 h1 h2 h3 zk=>elA zk fun e1 e2=>?_)
 subst e1 e2
 refine Ev.bk (h E1 J6 h1) h2 fun y J7 E2 b L8 k1 k2 k3 k4=>?_
 refine Ev.bk (k4 E2 J7 L4 y k1 (h3.kp k2) k3) (h2.trans k2) fun z J8 E3 n σ3 l1 l2 l3 l4=>?_
 exact Ev.bk (l4 E3 J8 z l1 l3) (h2.trans (k2.trans l2)) fun uu J9 E4 uu σ4 m1 m2 m3 m4=>⟨E4,_,σ4,m1,h2.trans (k2.trans (l2.trans m2)),.next,m4⟩
theorem bin_add {a b:Int} {K:V->St->Prop} (h:K (.int (a+b)) σ):Bin d c .Add (.int a) (.int b) σ K:=iv_ii fun g s r t u=>by
 exact add_int (.tok r (.int _ _) h)
theorem inp_add {a b:Int} {K:V->St->Prop} (h:K (.int (a+b)) σ):Inp d c .Add (.int a) (.int b) σ K:=iv_ii fun g s r t u=>by
 exact iadd_int (.tok r (.int _ _) h)
theorem bin_sub {a b:Int} {K:V->St->Prop} (h:K (.int (a - b)) σ):Bin d c .Sub (.int a) (.int b) σ K:=iv_ii fun g s r t u=>by
 exact PyProof.Rows.sub_int (.tok r (.int _ _) h)
theorem inp_sub {a b:Int} {K:V->St->Prop} (h:K (.int (a - b)) σ):Inp d c .Sub (.int a) (.int b) σ K:=iv_ii fun g s r t u=>by
 exact PyProof.Rows.isub_int (.tok r (.int _ _) h)
theorem bin_mod {a b:Int} {K:V->St->Prop} (hb:b≠0) (h:K (.int (a.fmod b)) σ):Bin d c .Mod (.int a) (.int b) σ K:=iv_ii fun g s r t u=>by
 exact PyProof.Rows.mod_int' hb (.tok r (.int _ _) h)
theorem bin_div {a b:Int} {K:V->St->Prop} (hb:b≠0) (hp:Builtin.divisionGoesByPylong a b=false) (h:K (.int (a.fdiv b)) σ):Bin d c .FloorDiv (.int a) (.int b) σ K:=iv_ii fun g s r t u=>by
 exact PyProof.Rows.floordiv_int hb (.tok r (.int _ _) h) (.inl hp)
theorem bin_mul {a b:Int} {K:V->St->Prop} (hm:IntMulOk a b) (h:K (.int (a * b)) σ):Bin d c .Mult (.int a) (.int b) σ K:=iv_ii fun g s r t u=>by
 exact PyProof.Rows.mul_int (.tok r (.int _ _) h) hm
theorem bin_pow {a n:Int} {K:V->St->Prop} (hn:0<=n) (hsz:(Builtin.Int.intBits a:Int) * n<=2 ^ 27) (h:K (.int (a ^ n.toNat)) σ):Bin d c .Pow (.int a) (.int n) σ K:=iv_ii fun g s r t u=>by
 exact PyProof.Rows.pow_int hn hsz (.tok r (.int _ _) h)
theorem bin_pow2 {n:Nat} {K:V->St->Prop} (hn:n<=1000) (h:K (.int (2 ^ (n:Int).toNat)) σ):Bin d c .Pow (.int 2) (.int (n:Int)) σ K :=
 bin_pow (Int.natCast_nonneg _) (by rw[show Builtin.Int.intBits 2=2 from by decide];exact Y84 hn) h
theorem cmp_eq {a b:Int} {K:V->St->Prop} (h:K (.bool (decide (a=b))) σ):Cmp d c .Eq (.int a) (.int b) σ K:=iv_ii fun g s r t u=>by
 exact PyProof.Rows.eq_int (.here r (.raw _) (by rw[show (a == b)=decide (a=b) from rfl];exact h))
theorem cmp_ne {a b:Int} {K:V->St->Prop} (h:K (.bool (decide (a≠b))) σ):Cmp d c .NotEq (.int a) (.int b) σ K:=iv_ii fun g s r t u=>by
 exact PyProof.Rows.ne_int (.here r (.raw _) (by rw[show (a != b) = !decide (a=b) from rfl,<- decide_not];exact h))
theorem cmp_lt {a b:Int} {K:V->St->Prop} (h:K (.bool (decide (a < b))) σ):Cmp d c .Lt (.int a) (.int b) σ K:=iv_ii fun g s r t u=>by
 exact PyProof.Rows.lt_int (.here r (.raw _) h)
theorem cmp_gt {a b:Int} {K:V->St->Prop} (h:K (.bool (decide (a > b))) σ):Cmp d c .Gt (.int a) (.int b) σ K:=iv_ii fun g s r t u=>by
 exact PyProof.Rows.gt_int (.here r (.raw _) h)
theorem cmp_le {a b:Int} {K:V->St->Prop} (h:K (.bool (decide (a<=b))) σ):Cmp d c .LtE (.int a) (.int b) σ K:=iv_ii fun g s r t u=>by
 exact PyProof.Rows.le_int (.here r (.raw _) h)
theorem cmp_ge {a b:Int} {K:V->St->Prop} (h:K (.bool (decide (a>=b))) σ):Cmp d c .GtE (.int a) (.int b) σ K:=iv_ii fun g s r t u=>by
 exact PyProof.Rows.ge_int (.here r (.raw _) h)
theorem tru_bool {b:Bool} {K:Bool->St->Prop} (h:K b σ):Tru d c (.bool b) σ K:=iv_r fun g s r=>by
 exact wpAny_truthy_bool (.here r rfl h)
theorem tru_none {K:Bool->St->Prop} (h:K false σ):Tru d c .none σ K:=iv_r fun g s r=>by
 exact truthy_none (.here r rfl h)
end
section
variable {d:Wd} {c:Cx} {σ:St}
structure Rm (A:Around) (n:Nat):Prop where
 depth:A.depth+n<=600
 units:A.units+20 * n<=6000
 handled:A.handled=none
theorem Rm.le {A:Around} {n m:Nat} (x:Rm A n) (h:m<=n):Rm A m:=⟨by have:=x.depth;exact Y230 h this,by have:=x.units;exact Y228 h this,x.handled⟩
theorem Rm.lt {A:Around} {n:Nat} (x:Rm A n):A.units+3000 < cLine:=by have:=x.units;unfold cLine;exact Y140 this
mutual
noncomputable def V.data:V->Option PyData
 | .raw .none=>some .none
 | .raw (.bool b)=>some (.bool b)
 | .raw _=>none
 | .int i=>some (.int i)
 | .str x=>if PyData.strOk x then some (.str x) else none
 | .tup vs=>(datas vs).map .tuple
 | .lst vs=>(datas vs).map .list
 | .sl ..=>none
 | .rng ..=>none
 | .vals ..=>none
noncomputable def datas:List V->Option (List PyData)
 | []=>some []
 | v::vs=>match V.data v,datas vs with
  | some p,some ps=>some (p::ps)
  | _,_=>none
end
noncomputable abbrev DtV (h:Heap) (v:V) (x:Value):Prop:=∀ p,v.data=some p->p.canLay0=true/\∃ as,Reads h x p as
noncomputable abbrev DtVs (h:Heap) (vs:List V) (xs:List Value):Prop:=∀ ps,datas vs=some ps->PyData.canLayAll0 ps=true/\∃ as,ReadsAll h xs ps as
theorem dt_raw {h:Heap} (v:Value):DtV h (.raw v) v:=fun p e=>by
 cases v with
 | none=>cases e;exact⟨rfl,_,.none⟩
 | bool b=>cases e;exact⟨rfl,_,.bool _⟩
 | _=>cases e
theorem dt_str {h:Heap} (x:Str) (t:Tok):DtV h (.str x) (.str x t):=fun p e=>by
 by_cases q:PyData.strOk x=true
 ·cases (if_pos q).symm.trans e;exact⟨q,_,.str x t⟩
 ·cases (if_neg q).symm.trans e
theorem dt_tup {h:Heap} {a:Addr} {vs:List V} {items:Array Value} {n:Nat} (q:IsT h a items n) (ih:DtVs h vs items.toList):DtV h (.tup vs) (.ref a):=fun p e =>
 elEA (Option.map_eq_some_iff.mp e) fun ps e' hq=>elAE (ih ps e') fun l as z=>by rw[<- hq];exact⟨l,_,.tuple q rfl rfl z⟩
theorem dt_lst {h:Heap} {a:Addr} {vs:List V} {items:Array Value} {n:Nat} (q:IsL h a items n) (ih:DtVs h vs items.toList):DtV h (.lst vs) (.ref a):=fun p e =>
 elEA (Option.map_eq_some_iff.mp e) fun ps e' hq=>elAE (ih ps e') fun l as z=>by rw[<- hq];exact⟨l,_,.list q rfl rfl z⟩
theorem dt_cons {h:Heap} {v:V} {vs:List V} {x:Value} {xs:List Value} (i1:DtV h v x) (i2:DtVs h vs xs):DtVs h (v::vs) (x::xs):=fun ps e=>by
 have e:(match V.data v,datas vs with
  | some p,some ps=>some (p::ps)
  | _,_=>none)=some ps:=e
 cases e1:V.data v with
 | none=>rw[e1] at e;cases e
 | some p=>cases e2:datas vs with
  | none=>rw[e1,e2] at e;cases e
  | some qs =>
   rw[e1,e2] at e
   cases e
   exact elAE (i1 p e1) fun l1 as z1=>elAE (i2 qs e2) fun l2 bs z2=>⟨Bool.and_eq_true_iff.mpr ⟨l1,l2⟩,_,.cons z1 z2⟩
theorem data_reads {g:Gh} {h:Heap} {v:V} {x:Value} {p:PyData} (r:RepV g h v x) (e:v.data=some p):p.canLay0=true/\∃ as,Reads h x p as :=
 RepV.rec (motive_1:=fun v x _=>DtV h v x) (motive_2:=fun vs xs _=>DtVs h vs xs) dt_raw (fun i t p e=>by cases e;exact⟨rfl,_,.int i t⟩) dt_str (fun _ q _ ih=>dt_tup q ih) (fun _ q _ ih=>dt_lst q ih) (fun _ _ _ _ _ _ e=>nomatch e) (fun _ _ _ e=>nomatch e) (fun _ _ _ e=>nomatch e)
  (fun ps e=>by cases e;exact⟨rfl,_,.nil⟩) (fun _ _ i1 i2=>dt_cons i1 i2) r p e
theorem datas_reads {g:Gh} {h:Heap} {vs:List V} {xs:List Value} {ps:List PyData} (r:RepVs g h vs xs) (e:datas vs=some ps):PyData.canLayAll0 ps=true/\∃ as,ReadsAll h xs ps as :=
 r.ind (P:=DtVs h) (fun ps e=>by cases e;exact⟨rfl,_,.nil⟩) (fun a _ ih=>dt_cons (fun _ e=>data_reads a e) ih) ps e
theorem cmp_eqD {a b:V} {p q:PyData} {K:V->St->Prop} (ha:a.data=some p) (hb:b.data=some q) (hd:p.depth<=100) (R:Rm c.A 0) (h:K (.bool (PyData.eqv p q)) σ):Cmp d c .Eq a b σ K:=fun g s x y r rx ry=>by
 refine elAE (data_reads rx ha) fun l1 as z1=>?_
 refine elAE (data_reads ry hb) fun l2 bs z2=>?_
 exact SeqAt.compareEq_reads z1 z2 l1 l2 (by have:=R.lt;have:=Nat.min_le_left p.depth q.depth;omega) (.here r (.raw _) h)
theorem cmp_neD {a b:V} {p q:PyData} {K:V->St->Prop} (ha:a.data=some p) (hb:b.data=some q) (hd:p.depth<=100) (R:Rm c.A 0) (h:K (.bool (!PyData.eqv p q)) σ):Cmp d c .NotEq a b σ K:=fun g s x y r rx ry=>by
 refine elAE (data_reads rx ha) fun l1 as z1=>?_
 refine elAE (data_reads ry hb) fun l2 bs z2=>?_
 exact SeqAt.compareNe_reads z1 z2 l1 l2 (by have:=R.lt;have:=Nat.min_le_left p.depth q.depth;omega) (.here r (.raw _) h)
theorem cmp_inD {a:V} {vs:List V} {p:PyData} {qs:List PyData} {K:V->St->Prop} (ha:a.data=some p) (hb:datas vs=some qs) (hd:p.depth<=100) (R:Rm c.A 0) (h:K (.bool (qs.any fun y=>PyData.eqv y p)) σ):Cmp d c .In a (.lst vs) σ K:=fun g s x y r rx ry=>by
 refine elAE (data_reads rx ha) fun l1 as z1=>?_
 refine elAE (data_reads (p:=.list qs) ry (by simp[V.data,hb])) fun l2 bs z2=>?_
 exact SeqAt.in_list_reads z2 z1 (by simpa [PyData.canLay0] using l2) l1 (by have:=R.lt;have:=Nat.min_le_right (PyData.depthAll qs) p.depth;omega) (.here r (.raw _) h)
theorem cmp_notInD {a:V} {vs:List V} {p:PyData} {qs:List PyData} {K:V->St->Prop} (ha:a.data=some p) (hb:datas vs=some qs) (hd:p.depth<=100) (R:Rm c.A 0) (h:K (.bool (!qs.any fun y=>PyData.eqv y p)) σ):Cmp d c .NotIn a (.lst vs) σ K:=fun g s x y r rx ry=>by
 refine elAE (data_reads rx ha) fun l1 as z1=>?_
 refine elAE (data_reads (p:=.list qs) ry (by simp[V.data,hb])) fun l2 bs z2=>?_
 exact SeqAt.notIn_list_reads z2 z1 (by simpa [PyData.canLay0] using l2) l1 (by have:=R.lt;have:=Nat.min_le_right (PyData.depthAll qs) p.depth;omega) (.here r (.raw _) h)
noncomputable abbrev Sub (d:Wd) (c:Cx) (value slice:Expr) (o i:V) (σ:St) (K:V->St->Prop):Prop:=Ev2 d c RepV o i (subscriptTail value slice) σ K
noncomputable abbrev SbK2 (d:Wd) (c:Cx) (vl:Expr) (sl:Expr) (o:V) (K:V->St->Prop) (i:V) (σ:St):Prop:=Sub d c vl sl o i σ K
noncomputable abbrev SbK (d:Wd) (c:Cx) (vl:Expr) (sl:Expr) (K:V->St->Prop) (o:V) (σ:St):Prop:=W d c sl σ (SbK2 d c vl sl o K)
theorem W_Subscript {value slice:Expr} {pos:Pos} {K:V->St->Prop} (h:W d c value σ (SbK d c value slice K)):W d c (.Subscript value slice pos) σ K :=
 fun g s q=>Subscript_ (wpAny_mono (h g s q) (fun x J6 zz=>zz.elim fun E1 a σ1 h1 h2 h3 h4=>wpAny_mono (h4 E1 J6 h1) (fun y J7 zz=>zz.elim fun E2 b L8 k1 k2 k3 k4 =>
  Ev.t (k4 E2 J7 x y k1 (h3.kp k2) k3) (h2.trans k2)) fun _ _ z=>z.kp d h2) fun _ _ z=>z)
theorem tail_ops {value slice:Expr} {o i:Value} {T id:String} {ops:List Value} {A:Around} {E:Value->Shared->Prop} {s:Shared} {Q:Value->Shared->Prop} (hT:s.TypeIs o T)
  (hl:typeLookup (.type T) "__getitem__" = pure (some (.builtin id))) (h:wpAny (model d.prog d.w) A (getItem o i) Q E s)
  (hs:subscripted slice false o i=operate ops (getItem o i)):wpAny (model d.prog d.w) A (subscriptTail value slice o i) Q E s:=by
 unfold subscriptTail
 refine wpAny_bind ?_
 rw[getitemInPython_of_ne hT.not_modules]
 refine wpAny_bind (wpAny_specialOf hT hl ?_)
 have fin:wpAny (model d.prog d.w) A (subscripted slice false o i) (fun r J8=>wpAny (model d.prog d.w) A (letTemporaryGo value o r >>= fun _=>pure r) Q E J8) E s:=by
  rw[hs]
  exact wpAny_operating (wpAny_mono h (fun r J8 G2=>wpAny_bind (wpAny_letTemporaryGo (wpAny_pure G2))) fun _ _ x=>x)
 first
  | exact wpAny_pure (wpAny_bind fin)
  | exact wpAny_bind (wpAny_pure (wpAny_bind fin))
  | exact wpAny_bind fin
theorem subscripted_ops (slice:Expr) (o i:Value):∃ ops,subscripted slice false o i=operate ops (getItem o i):=by
 cases slice with
 | Slice l u st p=>cases st<;>exact⟨_,rfl⟩
 | _=>exact⟨_,rfl⟩
theorem sub_ops {value slice:Expr} {o i:Value} {T id:String} {A:Around} {E:Value->Shared->Prop} {s:Shared} {Q:Value->Shared->Prop} (hT:s.TypeIs o T)
  (hl:typeLookup (.type T) "__getitem__" = pure (some (.builtin id))) (h:wpAny (model d.prog d.w) A (getItem o i) Q E s):wpAny (model d.prog d.w) A (subscriptTail value slice o i) Q E s:=by
 refine elE (subscripted_ops slice o i) fun ops e=>?_
 exact tail_ops hT hl h e
theorem sub_tup {value slice:Expr} {vs:List V} {k:Int} {j:Nat} {v:V} {K:V->St->Prop} (hlo:-(2 ^ 63)<=k) (hhi:k < 2 ^ 63) (hj:seqIndex? k vs.length=some j) (hv:vs[j]? = some v) (h:K v σ):Sub d c value slice (.tup vs) (.int k) σ K:=iv_ti fun g s r uu uu uu f e z t=>by
  refine elEA (z.get hv) fun cv e1 r1=>?_
  exact sub_ops (T:="tuple") ⟨_,e,rfl⟩ slot_tuple_getitem.lookup (P.getItem_tuple e hlo hhi (by rw[<- Array.length_toList,<- z.length];exact hj) (by simpa using e1) (.here r r1 h))
theorem sub_lst {value slice:Expr} {vs:List V} {k:Int} {v:V} {K:V->St->Prop} (h0:0<=k) (hhi:k < 2 ^ 63) (hv:vs[k.toNat]? = some v) (h:K v σ):Sub d c value slice (.lst vs) (.int k) σ K:=iv_li fun g s r uu uu uu f e z t=>by
  refine elEA (z.get hv) fun cv e1 r1=>?_
  exact sub_ops (T:="list") ⟨_,e,rfl⟩ slot_list_getitem.lookup (wpAny_getItem_list (IsL.isList e) h0 hhi (by simpa using e1) (.here r r1 h))
theorem sub_list {value slice:Expr} {a:Addr} {vs:List V} {k:Int} {v:V} {K:V->St->Prop} (hp:σ.hp a=some (.list vs)) (h0:0<=k) (hhi:k < 2 ^ 63) (hv:vs[k.toNat]? = some v) (h:K v σ):Sub d c value slice (.obj a) (.int k) σ K:=iv_ri fun g s r t=>by
  refine elAAAEEA (r.ob a _ hp) fun uu uu uu items n e z=>?_
  refine elEA (z.get hv) fun cv e1 r1=>?_
  exact sub_ops (T:="list") ⟨_,e,rfl⟩ slot_list_getitem.lookup (wpAny_getItem_list (IsL.isList e) h0 hhi (by simpa using e1) (.here r r1 h))
noncomputable def PInt (K:Option Int->St->Prop) (v:V) (σ:St):Prop:=match v with
 | .int i=>K (some i) σ
 | _=>False
theorem PInt_int {K:Option Int->St->Prop} {i:Int} (h:K (some i) σ):PInt K (.int i) σ:=h
noncomputable def WP (d:Wd) (c:Cx) (e:Option Expr) (σ:St) (K:Option Int->St->Prop):Prop:=match e with
 | none=>K none σ
 | some e=>W d c e σ (PInt K)
theorem WP.ev {e:Option Expr} {K:Option Int->St->Prop} (h:WP d c e σ K):Ev d c (fun _ _ k x=>IsPart x k) (evalPart e c.env) σ K:=by
 cases e with
 | none=>exact fun g s r=>wpAny_pure (.here r .none h)
 | some e=>exact fun g s r=>wpAny_mono (h g s r) (fun x J6 zz=>zz.elim fun E1 v σ1 h1 h2 h3 h4=>by
   cases v with
   | int i=>exact elE h3.i fun t e=>⟨E1,_,σ1,h1,h2,e ▸ .int i t,h4⟩
   | _=>exact h4.elim) fun _ _ z=>z
noncomputable abbrev SlK3 (lo:Option Int) (hi:Option Int) (K:V->St->Prop) (st:Option Int) (σ:St):Prop:=K (.sl lo hi st) σ
noncomputable abbrev SlK2 (d:Wd) (c:Cx) (e3:Option Expr) (lo:Option Int) (K:V->St->Prop) (hi:Option Int) (σ:St):Prop:=WP d c e3 σ (SlK3 lo hi K)
noncomputable abbrev SlK1 (d:Wd) (c:Cx) (e2:Option Expr) (e3:Option Expr) (K:V->St->Prop) (lo:Option Int) (σ:St):Prop:=WP d c e2 σ (SlK2 d c e3 lo K)
theorem W_Slice {lower upper step:Option Expr} {p:Pos} {K:V->St->Prop}
  (h:WP d c lower σ (SlK1 d c upper step K)):W d c (.Slice lower upper step p) σ K:=fun g s r =>
 wpAny_Slice (wpAny_mono (h.ev g s r) (fun x J6 zz=>zz.elim fun E1 lo σ1 h1 h2 h3 h4=>wpAny_mono (h4.ev E1 J6 h1) (fun y J7 zz=>zz.elim fun E2 hi L8 k1 k2 k3 k4=>wpAny_mono (k4.ev E2 J7 k1) (fun z J8 zz=>zz.elim fun E3 st σ3 l1 l2 l3 l4 =>
  ⟨gset E3 J8.heap.objs.size .frz,_,σ3,l1.pushed _ .frz J8.toks,h2.trans (k2.trans (l2.trans (l1.chPush _ _).kp)),.sl (gset_self ..) (Heap.IsSliceOf.new ..) h3 k3 l3,l4⟩) fun _ _ z=>z.kp d (h2.trans k2)) fun _ _ z=>z.kp d h2) fun _ _ z=>z)
noncomputable def pick {α:Type} (vs:List α) (lo hi:Option Int):List α:=(vs.drop (lo.elim 0 (clipAt vs.length))).take (hi.elim vs.length (clipAt vs.length) - lo.elim 0 (clipAt vs.length))
theorem pick_rep {g:Gh} {h:Heap} {vs:List V} {items:Array Value} (z:RepVs g h vs items.toList) (lo hi:Option Int):RepVs g h (pick vs lo hi) (slicePick items lo hi none).toList:=by
 rw[slicePick_plain]
 have:items.size=vs.length:=by rw[z.length,Array.length_toList]
 rw[this]
 exact (z.drop _).take _
theorem sz_of {g:Gh} {h:Heap} {vs:List V} {items:Array Value} (z:RepVs g h vs items.toList) (hz:vs.length<=1000):items.size<=sizeLine:=by rw[<- Array.length_toList,<- z.length,sizeLine_eq];walk_at "o"
theorem sub_slice {value slice:Expr} {vs:List V} {lo hi:Option Int} {K:V->St->Prop} (hz:vs.length<=1000) (h:K (.lst (pick vs lo hi)) σ):Sub d c value slice (.lst vs) (.sl lo hi none) σ K:=iv_lS fun g s r uu uu uu f e z uu uu uu uu f' q pl pu pk=>by
  have hz':=sz_of z hz
  exact sub_ops (T:="list") ⟨_,e,rfl⟩ slot_list_getitem.lookup (wpAny_getItem_list_slice (IsL.isList e) q pl pu pk (by simp)
   ⟨gset g s.heap.objs.size .frz,_,σ,r.pushed _ .frz s.toks,(r.chPush _ _).kp,.lst (gset_self ..) (IsL.new ..) ((pick_rep z lo hi).kp (r.chPush _ _).kp),h⟩ hz')
theorem sub_rev {value slice:Expr} {vs:List V} {K:V->St->Prop} (hz:vs.length<=1000) (h:K (.lst vs.reverse) σ):Sub d c value slice (.lst vs) (.sl none none (some (-1))) σ K:=iv_lS fun g s r uu uu uu f e z uu uu uu uu f' q pl pu pk=>by
  have hz':=sz_of z hz
  exact sub_ops (T:="list") ⟨_,e,rfl⟩ slot_list_getitem.lookup (wpAny_getItem_list_slice (IsL.isList e) q pl pu pk (by simp)
   ⟨gset g s.heap.objs.size .frz,_,σ,r.pushed _ .frz s.toks,(r.chPush _ _).kp,.lst (gset_self ..) (IsL.new ..) (by rw[krv_pick];simpa using z.reverse.kp (r.chPush _ _).kp),h⟩ hz')
theorem adjust_upto (k:Int) (n:Nat):Builtin.Slice.sliceAdjust none (some k) 1 (n:Int)=((0:Int),((clipAt n k:Nat):Int)):=by
 rw[clipAt_cast]
 refine congrArg (Prod.mk (0:Int)) (?_:(if k < 0 then max (k+n) 0 else min k n)=_)
 by_cases h:k < 0
 ·rw[if_pos h,if_pos h,Int.min_eq_left (Y15 h),Int.max_comm]
 ·rw[if_neg h,if_neg h,Int.max_eq_right (Int.le_min.mpr ⟨Int.not_lt.mp h,Int.natCast_nonneg n⟩)]
theorem places_upto (m:Nat):Builtin.Slice.slicePlaces 0 (m:Int) 1=m:=by
 cases m with
 | zero=>rfl
 | succ m =>
  unfold Builtin.Slice.slicePlaces
  rw[if_pos (by decide),if_pos (Int.natCast_pos.mpr (Nat.succ_pos m)),Int.ediv_one,Int.sub_zero,Int.sub_add_cancel,Int.toNat_natCast]
theorem sliceApplied_upto {A:Around} {E:Value->Shared->Prop} {s:Shared} {sl:Addr} {n:Nat} {k:Int} {vl vu vk:Value} {Q:Int×Int×Nat->Shared->Prop} (hs:s.heap.IsSliceOf sl vl vu vk) (pl:IsPart vl none) (pu:IsPart vu (some k)) (pk:IsPart vk none) (h:Q (0,1,clipAt n k) s) :
  wpAny (model d.prog d.w) A (Builtin.Slice.sliceApplied (.ref sl) (pure (n:Int))) Q E s:=by
 cases pl;cases pk;cases pu with | int _ u =>
 refine elEAA (id hs) fun os hos hcs hds=>?_
 unfold Builtin.Slice.sliceApplied Builtin.Slice.sliceFields
 refine wpAny_bind (wpAny_bind (wpAny_field hos hds (x:=.none) rfl (wpAny_bind (wpAny_field hos hds (x:=.int k u) rfl (wpAny_bind (wpAny_field hos hds (x:=.none) rfl (wpAny_pure ?_)))))))
 refine wpAny_bind (slicePart_none ?_)
 show wpAny _ _ (if ((1:Int) == 0)=true then _ else _) _ _ s
 rw[if_neg (by decide)]
 refine wpAny_bind (slicePart_none (wpAny_bind (slicePart_int (wpAny_bind (wpAny_pure ?_)))))
 show wpAny _ _ (match Builtin.Slice.sliceAdjust none (some k) 1 (n:Int) with | (lo,hi)=>pure (lo,(1:Int),Builtin.Slice.slicePlaces lo hi 1)) _ _ s
 rw[adjust_upto]
 show wpAny _ _ (pure ((0:Int),(1:Int),Builtin.Slice.slicePlaces 0 ((clipAt n k:Nat):Int) 1)) _ _ s
 rw[places_upto]
 exact wpAny_pure h
theorem pick_upto (xs:Array Value) (m:Nat):((List.range m).filterMap fun (k:Nat)=>xs[((0:Int)+(k:Int) * 1).toNat]?).toArray=(xs.toList.take m).toArray:=by
 have e:(fun (k:Nat)=>xs[((0:Int)+(k:Int) * 1).toNat]?)=fun k=>xs[0+k]?:=by
  funext k
  have:((0:Int)+(k:Int) * 1).toNat=0+k:=by rw[Int.mul_one,Int.zero_add,Int.toNat_natCast,Nat.zero_add]
  rw[this]
 rw[e]
 have:=pick_run xs 0 m
 rw[List.filterMap_map] at this
 have e2:((fun x=>xs[x]?) ∘ fun x=>0+x)=fun k=>xs[0+k]?:=rfl
 rw[e2] at this
 rw[this];simp
theorem getItem_tup_upto {A:Around} {E:Value->Shared->Prop} {s:Shared} {t sl:Addr} {items:Array Value} {k:Int} {n:Nat} {vl vu vk:Value} {Q:Value->Shared->Prop} (ht:IsT s.heap t items n) (hs:s.heap.IsSliceOf sl vl vu vk) (pl:IsPart vl none) (pu:IsPart vu (some k)) (pk:IsPart vk none)
  (h0:clipAt items.size k=items.size->Q (.ref t) s)
  (h:clipAt items.size k≠items.size->Q (.ref s.heap.objs.size) { s with heap:=s.heap.push { cls:=.type "tuple",data:=.seq (items.toList.take (clipAt items.size k)).toArray } })
  (hsz:items.size<=sizeLine):wpAny (model d.prog d.w) A (getItem (.ref t) (.ref sl)) Q E s:=by
 have hT:IsTup s.heap t items:=⟨_,ht,rfl,n,rfl⟩
 have hcut:sizeOk (.seq (items.toList.take (clipAt items.size k)).toArray):=by
  show (items.toList.take (clipAt items.size k)).toArray.size<=sizeLine
  rw[List.size_toArray,List.length_take,Array.length_toList]
  exact Y232 hsz
 refine elEAA (id hs) fun os hos hcs hds=>?_
 have hTs:s.TypeIs (.ref sl) "slice":=⟨os,hos,hcs⟩
 unfold getItem
 try with_reducible refine wpAny_holding ?_
 first | refine wpAny_bind (wpAny_pure ?_) | skip
 refine wpAny_bind (wpAny_sequenceKey hT.typeIs (by decide) ?_)
 refine wpAny_bind (wpAny_callSpecial?_slot (name:=Str.ofString "__getitem__") hT.typeIs slot_tuple_getitem
  (wpAny_call_entry slot_tuple_getitem hT.typeIs entry_tuple_getitem ?_ (args_tuple_getitem _ _)))
 show wpAny _ _ (Builtin.Tuple.tupleItemsOf (.ref t) >>= _) _ _ s
 refine wpAny_bind (tupleItemsOf_ hT ?_)
 refine wpAny_bind (wpAny_typeOf hTs ?_)
 rw[if_pos (by decide)]
 refine wpAny_bind (sliceApplied_upto hs pl pu pk ?_)
 show wpAny _ _ (if ((0:Int) == 0&&(1:Int) == 1&&(clipAt items.size k) == items.size)=true then _ else _) _ _ s
 by_cases hc:clipAt items.size k=items.size
 ·rw[if_pos (by simp[hc])]
  refine wpAny_bind ?_
  unfold Builtin.Tuple.tupleIsExact
  refine wpAny_bind (wpAny_typeOf hT.typeIs (wpAny_pure ?_))
  rw[if_pos (by decide)]
  first
   | exact wpAny_bind (wpAny_rule (wpAny_bind (wpAny_pure ⟨_,rfl,wpAny_pure (h0 hc)⟩)))
   | exact wpAny_bind (wpAny_rule (wpAny_pure ⟨_,rfl,wpAny_pure (h0 hc)⟩))
 ·rw[if_neg (by simp[hc]),pick_upto]
  first
   | exact wpAny_bind (m:=Builtin.Tuple.tupleExact _) (wpAny_newObj_type (wpAny_pure ⟨_,rfl,wpAny_pure (h hc)⟩) hcut)
   | exact wpAny_bind (m:=Builtin.Tuple.tupleExact _) (wpAny_newObj_type (wpAny_bind (wpAny_pure (wpAny_pure ⟨_,rfl,wpAny_pure (h hc)⟩))) hcut)
   | exact wpAny_bind (wpAny_bind (m:=Builtin.Tuple.tupleExact _) (wpAny_newObj_type (wpAny_pure (wpAny_pure ⟨_,rfl,wpAny_pure (h hc)⟩)) hcut))
   | exact wpAny_bind (wpAny_bind (m:=Builtin.Tuple.tupleExact _) (wpAny_newObj_type (wpAny_pure ⟨_,rfl,wpAny_pure (h hc)⟩) hcut))
theorem sub_cut {value slice:Expr} {vs:List V} {k:Int} {K:V->St->Prop} (hz:vs.length<=1000) (h:K (.tup (vs.take (clipAt vs.length k))) σ):Sub d c value slice (.tup vs) (.sl none (some k) none) σ K:=iv_tS fun g s r a items n f e z uu uu uu uu f' q pl pu pk=>by
  have hs:items.size=vs.length:=by rw[z.length,Array.length_toList]
  refine sub_ops (T:="tuple") ⟨_,e,rfl⟩ slot_tuple_getitem.lookup (getItem_tup_upto e q pl pu pk (fun hc=>?_) (fun hc=>?_) (by rw[hs,sizeLine_eq];walk_at "o"))
  ·rw[hs] at hc
   exact⟨g,_,σ,r,Kp.refl ..,.tup f e z,by rw[hc,List.take_length] at h;exact h⟩
  ·rw[hs] at hc ⊢
   exact⟨gset g s.heap.objs.size .frz,_,σ,r.pushed _ .frz s.toks,(r.chPush _ _).kp,.tup (gset_self ..) (IsT.new ..) (by simpa using (z.take _).kp (r.chPush _ _).kp),h⟩
theorem emp_eq {g:Gh} {h:Heap} {vs:List V} {items:Array Value} (z:RepVs g h vs items.toList):(!items.isEmpty) = !vs.isEmpty:=by
 unfold Array.isEmpty
 rw[szI z];cases vs<;>rfl
theorem tru_list {a:Addr} {vs:List V} {K:Bool->St->Prop} (hp:σ.hp a=some (.list vs)) (hz:vs.length<=1000) (h:K (!vs.isEmpty) σ):Tru d c (.obj a) σ K:=iv_r fun g s r=>by
  refine elAAAEEA (r.ob a _ hp) fun uu uu uu items n e z=>?_
  have hs:=szI z
  refine wpAny_truthy_list (IsL.isList e) (by rw[hs];exact Y85 hz) ?_
  rw[emp_eq z]
  exact⟨g,_,σ,r.tok _,Kp.refl ..,rfl,h⟩
theorem tru_tup {vs:List V} {K:Bool->St->Prop} (hz:vs.length<=1000) (h:K (!vs.isEmpty) σ):Tru d c (.tup vs) σ K:=iv_t fun g s r a items n f e z=>by
  have hs:=szI z
  refine truthy_tuple ⟨_,e,rfl,n,rfl⟩ (by rw[hs];exact Y85 hz) ?_
  rw[emp_eq z]
  exact⟨g,_,σ,r.tok _,Kp.refl ..,rfl,h⟩
end
section
variable {d:Wd} {c:Cx} {σ:St}
noncomputable def allBut (hB h:Heap) (L x:Addr):List (Addr×Obj):=(List.range h.objs.size).filterMap fun b=>if b=L\/b=x\/(hB.get? b).isSome then none else (h.get? b).map fun o=>(b,o)
theorem mem_allBut {hB h:Heap} {L x b:Addr} {o:Obj} (e:h.get? b=some o) (h1:b≠L) (h2:b≠x) (h3:hB.get? b=none):(b,o)∈allBut hB h L x :=
 List.mem_filterMap.mpr ⟨b,List.mem_range.mpr (Heap.lt_size e),by rw[if_neg (by simp[h1,h2,h3]),e];rfl⟩
theorem of_allBut {hB h:Heap} {L x:Addr} {p:Addr×Obj} (e:p∈allBut hB h L x):h.get? p.1=some p.2/\p.1≠L/\p.1≠x/\hB.get? p.1=none:=by
 refine elEA (List.mem_filterMap.mp e) fun b uu e=>?_
 split at e
 ·cases e
 ·rename_i q
  refine elEA (Option.map_eq_some_iff.mp e) fun o ho hq2=>?_
  subst hq2
  simp only[not_or,Bool.not_eq_true,Option.isSome_eq_false_iff,Option.isNone_iff_eq_none] at q
  exact⟨ho,q.1,q.2.1,q.2.2⟩
theorem Rep.fr0 {g:Gh} {A:Around} {env:Env} {s:Shared} (r:Rep d g A env σ s):∃ m,Fr d.hB env.locals s.heap m:=by
 refine elEA r.fr.ns fun m hm uu=>?_
 exact⟨m,hm,fun b o e=>(r.base b o e).2,r.fr.low⟩
theorem Rep.inK {g:Gh} {A:Around} {env:Env} {s:Shared} (r:Rep d g A env σ s):d.K.In s.heap:=r.ok.inK.keeps fun b o e=>(r.base b o e).2
theorem Rep.ownNone {g:Gh} {A:Around} {env:Env} {s:Shared} (r:Rep d g A env σ s) {x a:Addr} (hg:g x = .own a):d.hB.get? x=none:=by
 cases q:d.hB.get? x with
 | none=>rfl
 | some o=>have:=(r.base _ _ q).1;rw[hg] at this;cases this
theorem Rep.news {g:Gh} {A:Around} {env:Env} {s:Shared} (r:Rep d g A env σ s) {x a:Addr} {o:Obj} (ho:s.heap.get? x=some o) (hg:g x = .own a) (ha:a≠env.locals) :
  News d.hB env.locals s.heap ((x,o)::allBut d.hB s.heap env.locals x)/\(∀ p∈allBut d.hB s.heap env.locals x,p.1≠x) /\
  ∀ {h':Heap} {o':Obj} {m:Str->Option Value},Fr d.hB env.locals s.heap m->Fr d.hB env.locals h' m->News d.hB env.locals h' ((x,o')::allBut d.hB s.heap env.locals x)->h'.get? x=some o'/\Ch env.locals a g s.heap g h':=by
 obtain hxL:x≠env.locals:=fun e=>by simp only[e,r.fr.own] at hg;exact ha (Ow.inj hg).symm
 refine ⟨fun p hp=>?_,fun p hp=>(of_allBut hp).2.2.1,fun {h' o' m} F F' N'=>⟨(N' _ (.head _)).1,⟨fun b ob e hb hL=>⟨rfl,?_⟩,⟨m,F.ns,F'.ns⟩,rfl,r.fr.own⟩⟩⟩
 ·rcases List.mem_cons.mp hp with rfl | hp
  ·exact⟨ho,hxL,r.ownNone hg⟩
  ·exact⟨(of_allBut hp).1,(of_allBut hp).2.1,(of_allBut hp).2.2.2⟩
 ·obtain hbx:b≠x:=fun z=>hb (z ▸ hg)
  cases q:d.hB.get? b with
  | some o2 =>
   obtain this:=(r.base b o2 q).2
   simp only[e] at this;cases this
   exact F'.keep b _ q
  | none=>exact (N' _ (.tail _ (mem_allBut e hL hbx q))).1
theorem RepEs.get {g:Gh} {h:Heap} {fs:List (Str×V)} {es:List DictEntry} (x:RepEs g h fs es) (name:Str) :
  (look name fs=none/\getL name es=some none)\/∃ v cv,look name fs=some v/\getL name es=some (some cv)/\RepV g h v cv:=by
 induction x with
 | nil=>exact .inl ⟨rfl,rfl⟩
 | @cons k t v cv hs r r' a _ ih =>
  obtain e1:getL name (⟨hs,.str k t,cv⟩::r')=if k=name then some (some cv) else getL name r':=by
   delta getL
   simp only[List.find?_cons,List.any_cons]
   by_cases q:k=name
   ·simp only[if_pos q];simp[Value.isStr,q]
   ·simp only[if_neg q]
    obtain this:(Value.str k t).isStr name=false:=by simp[Value.isStr,q]
    simp only[this]
    rfl
  unfold look
  rw[e1]
  by_cases q:k=name
  ·rw[if_pos q,if_pos q];exact .inr ⟨v,cv,rfl,rfl,a⟩
  ·rw[if_neg q,if_neg q];exact ih
theorem RepEs.put {g:Gh} {h:Heap} {fs:List (Str×V)} {es:List DictEntry} (x:RepEs g h fs es) (name:Str) {v:V} {cv:Value} {hs:Int} {t:Tok} (a:RepV g h v cv):RepEs g h (Mine.put name v fs) (putL name hs (.str name t) cv es):=by
 induction x with
 | nil=>exact .cons a .nil
 | @cons k t' v' cv' hs' r r' b _ ih =>
  unfold Mine.put putL
  by_cases q:k=name
  ·have:(Value.str k t').isStr name=true:=by simp[Value.isStr,q]
   rw[if_pos q,if_pos this];exact .cons a (by assumption)
  ·have:¬ (Value.str k t').isStr name=true:=by simp[Value.isStr,q]
   rw[if_neg q,if_neg this];exact .cons b ih
theorem RepEs.length {g:Gh} {h:Heap} {fs:List (Str×V)} {es:List DictEntry} (x:RepEs g h fs es):fs.length=es.length:=by
 induction x with
 | nil=>rfl
 | cons _ _ ih=>simp[ih]
noncomputable def handV:V->Bool
 | .raw v=>handedIn v
 | _=>true
theorem RepV.hand {g:Gh} {h:Heap} {v:V} {cv:Value} (x:RepV g h v cv) (hv:handV v=true):handedIn cv=true:=by
 cases x<;>first | exact hv | rfl
noncomputable abbrev Att (d:Wd) (c:Cx) (o:V) (name:Str) (expr:Bool) (σ:St) (K:V->St->Prop):Prop:=Ev1 d c RepV o (fun x=>getAttr x name expr) σ K
theorem att_inst {x C:Addr} {fs:List (Str×V)} {name:Str} {expr:Bool} {attr:Option Value} {v:V} {K:V->St->Prop} (hp:σ.hp x=some (.inst C fs)) (hl:look name fs=some v) (hg:plainGet d.K C name=true) (hh:hasDictIn d.K C=true)
  (ha:findIn d.K (.ref C) name=some attr) (hn:noGet d.K attr=true) (hv:handV v=true) (h:K v σ):Att d c (.obj x) name expr σ K:=iv_r fun g s r=>by
  obtain zz0:=(r.ob x _ hp).2.2.2
  refine elEEE zz0 fun dx es n zz91=>?_;obtain ho:=zz91.1;obtain hgd:=zz91.2.1;obtain hx:=zz91.2.2.1;obtain hd:=zz91.2.2.2.1;obtain z:=zz91.2.2.2.2
  rcases z.get name with ⟨e1,_⟩ | ⟨v',cv,e1,e2,rv⟩
  ·simp only[hl] at e1;cases e1
  ·simp only[hl] at e1;cases e1
   exact get_value r.inK ⟨ho,rfl,rfl,hd⟩ (plainGet_of hg).1 (findObj_own (od:=dictOf es n) hh ha hn (by simp only[lookIn_dict];exact e2)) (rv.hand hv) (.tok r rv h)
theorem RepOs.get {g:Gh} {h:Heap} {fs:List (Option V)} {sl:List (Option Value)} (x:RepOs g h fs sl) {i:Nat} {v:V} (e:(fs[i]?).join=some v):∃ cv,(sl[i]?).join=some cv/\RepV g h v cv:=by
 induction x generalizing i with
 | nil=>simp at e
 | no _ ih=>cases i with
  | zero=>simp at e
  | succ i=>simpa using ih (by simpa using e)
 | yes a _ ih=>cases i with
  | zero=>simp at e;subst e;exact⟨_,by simp,a⟩
  | succ i=>simpa using ih (by simpa using e)
theorem att_slot {x C p:Addr} {fs:List (Option V)} {name:Str} {expr:Bool} {i:Nat} {v:V} {K:V->St->Prop} (hp:σ.hp x=some (.slots C fs)) (hl:(fs[i]?).join=some v) (hg:plainGet d.K C name=true) (hc:isClsIn d.K C=true)
  (ha:findIn d.K (.ref C) name=some (some (.ref p))) (hn:specialIn d.K (.ref p) "__get__" = some (some (.builtin "member_descriptor.__get__"))) (ht:takesIn d.K (.ref p)=some true) (hi:slotIn d.K p C=some i) (hv:handV v=true) (h:K v σ):Att d c (.obj x) name expr σ K:=iv_r fun g s r=>by
  obtain zz0:=(r.ob x _ hp).2.2.2
  refine elEEEE zz0 fun dx es n sl zz108=>?_;obtain ho:=zz108.1;obtain hgd:=zz108.2.1;obtain hx:=zz108.2.2.1;obtain zz1:=zz108.2.2.2
  obtain hd:=zz1.1;obtain he:=zz1.2.1;obtain z:=zz1.2.2
  refine elE (z.get hl) fun cv zz110=>?_;obtain e1:=zz110.1;obtain rv:=zz110.2
  refine elE r.fr0 fun m F=>?_
  exact get_slot F r.ok.inK ⟨ho,rfl,rfl,hd⟩ hg hc ha hn ht hi (by simpa using e1) (rv.hand hv) (.tok r rv h)
noncomputable abbrev SetA (d:Wd) (c:Cx) (o:V) (name:Str) (v:V) (σ:St) (K:Unit->St->Prop):Prop:=Ev2 d c REq o v (fun x y=>setAttr x name y) σ K
theorem set_inst {x C:Addr} {fs:List (Str×V)} {name:Str} {v:V} {K:Unit->St->Prop} (hp:σ.hp x=some (.inst C fs)) (hs:findIn d.K (.ref C) "__setattr__" = some (some (.builtin "object.__setattr__"))) (hpl:plainOver d.K C=true) (ht:takerIn d.K C name=some none) (hh:hasDictIn d.K C=true)
  (hz:fs.length<=500) (h:K () (σ.upd x (.inst C (put name v fs)))):SetA d c (.obj x) name v σ K:=iv_rv fun g s r z rz=>by
  refine elAAA (r.ob x _ hp) fun hgx hxL hlow zz0=>?_
  refine elEEEAAAA zz0 fun dx es n ho hgd hx hd q=>?_
  refine elE r.fr0 fun m F=>?_
  refine elAA (r.news hd hgd hxL) fun N hne back=>?_
  have hlen:(putL name (PyData.keyHash d.w.params name) (.str name (s.toks+1)) z es).length<=1000:=by
   obtain this:∀ (es:List DictEntry),(putL name (PyData.keyHash d.w.params name) (.str name (s.toks+1)) z es).length<=es.length+1:=by
    intro es
    induction es with
    | nil=>simp[putL]
    | cons e r ih=>unfold putL;split<;>simp<;>walk_at "o"
   obtain this:=this es
   obtain this:=q.length
   omega
  have hl:(getL name es).isSome=true:=by rcases q.get name with ⟨_,e⟩ | ⟨_,_,_,e,_⟩<;>rw[e]<;>rfl
  refine set_dict (K:=d.K) F r.ok.inK N ⟨ho,rfl,rfl,hd⟩ rfl hs hpl ht hh hl rfl (.head hne) hlen fun h' F' N'=>?_
  refine elA (back F F' N') fun e1 ch=>?_
  obtain ho':h'.get? x=some (instObj C dx):=by
   cases qb:d.hB.get? x with
   | some _=>exact absurd ((r.base _ _ qb).1.symm.trans hgx) Ow.noConfusion
   | none=>exact (N' _ (.tail _ (mem_allBut ho hxL (Ne.symm hx) qb))).1
  obtain rz':=rz.kp ch.kp
  obtain hdL:dx≠c.env.locals:=fun e=>by
   have:=hgd;rw[e] at this
   exact hxL (Ow.inj (this.symm.trans r.fr.own))
  refine ⟨g,(),_,r.but (o:=some (.inst C (put name v fs))) ch hxL (fun ao e=>?_),ch.kp,rfl,h⟩
  cases e
  exact⟨hgx,hlow,dx,_,_,ho',hgd,hx,e1,(q.mono ch.kp.frz).put name rz'⟩
end
section
variable {d:Wd} {c:Cx} {σ:St}
noncomputable abbrev lk (l:List (Str×V)):Str->Option V:=fun x=>look x l
theorem look_put {α κ:Type} [DecidableEq κ] (x y:κ) (v:α) (l:List (κ×α)):look y (put x v l)=if y=x then some v else look y l:=by
 induction l with
 | nil =>
  unfold put look look;by_cases h:y=x
  ·rw[if_pos h,if_pos h.symm]
  ·rw[if_neg h,if_neg (fun e=>h e.symm)]
 | cons kv r ih =>
  obtain⟨k',v'⟩:=kv
  unfold put
  by_cases h:k'=x
  ·rw[if_pos h]
   conv=>lhs;unfold look
   conv=>rhs;unfold look
   by_cases h2:y=x
   ·rw[if_pos h2,if_pos (h.trans h2.symm)]
   ·rw[if_neg h2,if_neg (fun e=>h2 (e.symm.trans h)),if_neg (fun e=>h2 (e.symm.trans h))]
  ·rw[if_neg h]
   conv=>lhs;unfold look
   conv=>rhs;unfold look
   by_cases h3:k'=y
   ·rw[if_pos h3,if_pos h3]
    by_cases h2:y=x
    ·exact absurd (h3.trans h2) h
    ·rw[if_neg h2]
   ·rw[if_neg h3,if_neg h3,ih]
theorem set_lk (l:List (Str×V)) (hp:Addr->Option AO) (x:Str) (v:V):(⟨lk l,hp⟩:St).set x v=⟨lk (put x v l),hp⟩:=by
 delta St.set lk
 congr 1
 funext y
 exact (look_put x y v l).symm
theorem look_hd {α κ:Type} [DecidableEq κ] {k:κ} {v:α} {r:List (κ×α)}:look k ((k,v)::r)=some v:=by unfold look;rw[if_pos rfl]
theorem look_tl {α κ:Type} [DecidableEq κ] {k k':κ} {v' v:α} {r:List (κ×α)} (h:decide (k'=k)=false) (e:look k r=some v):look k ((k',v')::r)=some v:=by unfold look;rw[if_neg (of_decide_eq_false h)];exact e
theorem look_mem {α κ:Type} [DecidableEq κ] {k:κ} {v:α}:∀ {l:List (κ×α)},look k l=some v->k∈l.map (·.1)
 | [],e=>nomatch e
 | (k',v')::r,e=>by
  unfold look at e
  by_cases h:k'=k
  ·subst h;exact .head _
  ·rw[if_neg h] at e;exact .tail _ (look_mem e)
theorem put_hd {α κ:Type} [DecidableEq κ] {k:κ} {v v':α} {r:List (κ×α)}:put k v ((k,v')::r)=(k,v)::r:=by unfold put;rw[if_pos rfl]
theorem put_tl {α κ:Type} [DecidableEq κ] {k k':κ} {v' v:α} {r r':List (κ×α)} (h:decide (k'=k)=false) (e:put k v r=r'):put k v ((k',v')::r)=(k',v')::r':=by
 conv=>lhs;unfold put
 rw[if_neg (of_decide_eq_false h),e]
noncomputable abbrev CallV (d:Wd) (c:Cx) (f:Value) (vs:List V) (ks:List (Str×V)) (σ:St) (K:V->St->Prop):Prop :=
 ∀ g s xs ys,Rep d g c.A c.env σ s->RepVs g s.heap vs xs->RepVs g s.heap (ks.map Prod.snd) ys ->
  wpAny (model d.prog d.w) c.A (call f xs ((ks.map Prod.fst).zip ys)) (PostQ d c g s RepV K) (PostX d c g s) s
noncomputable def BindV (d:Wd) (c:Cx) (fd:FuncData) (vs:List V) (ks:List (Str×V)) (bs:List (Str×V)) (σ:St):Prop :=
 ∀ g s xs ys,Rep d g c.A c.env σ s->RepVs g s.heap vs xs->RepVs g s.heap (ks.map Prod.snd) ys->∀ (Q:List (Str×Value)->Shared->Prop) (E:Value->Shared->Prop),
  (∀ g' s' binds,Rep d g' c.A c.env σ s'->Kp g s.heap g' s'.heap->RepKV g' s'.heap bs binds->Q binds s')->wpAny (model d.prog d.w) c.A.in1 (bindArgs fd ⟨xs,(ks.map Prod.fst).zip ys⟩) Q E s
noncomputable def fnData (o:Obj):FuncData:=match o.data with
 | .func fd=>fd
 | _=>⟨ofS "",ofS "",⟨[],[],none,[],[],none,[]⟩,.stmts [],pw.main.scope,0,[],.none,.none,.none,.none,none,.none,.none,0⟩
theorem bindL_not {kindOf:Str->Option NameKind} {x:Str}:∀ (binds:List (Str×Value)) (m:Str->Option Value),x ∉ binds.map (·.1)->bindL kindOf binds m x=m x
 | [],m,_=>rfl
 | (n,v)::r,m,h=>by
  simp only[List.map_cons,List.mem_cons,not_or] at h
  unfold bindL
  simp only[bindL_not r _ h.2]
  split
  ·exact if_neg h.1
  ·rfl
theorem bindL_at {kindOf:Str->Option NameKind} {x:Str} {c:Value} (hx:kindOf x=some .local):∀ (binds:List (Str×Value)) (m:Str->Option Value),(binds.map (·.1)).Nodup->valueAt binds x=some c->bindL kindOf binds m x=some c
 | [],m,_,e=>by simp[valueAt] at e
 | (n,v)::r,m,hn,e=>by
  simp only[List.map_cons,List.nodup_cons] at hn
  rw[valueAt_cons] at e
  unfold bindL
  by_cases h:n=x
  ·subst h
   rw[if_pos rfl] at e
   cases e
   rw[bindL_not r _ hn.1,if_pos hx,if_pos rfl]
  ·rw[if_neg h] at e
   exact bindL_at hx r _ hn.2 e
theorem bindC_not {kindOf:Str->Option NameKind} {x:Str}:∀ (binds:List (Str×Value)) (m:Str->Option Value),x ∉ binds.map (·.1)->bindC kindOf binds m x=m x
 | [],m,_=>rfl
 | (n,v)::r,m,h=>by
  simp only[List.map_cons,List.mem_cons,not_or] at h
  unfold bindC
  simp only[bindC_not r _ h.2]
  split
  ·rfl
  ·exact if_neg h.1
theorem bindC_at {kindOf:Str->Option NameKind} {x:Str} {c:Value} (hx:kindOf x=some .cell):∀ (binds:List (Str×Value)) (m:Str->Option Value),(binds.map (·.1)).Nodup->valueAt binds x=some c->bindC kindOf binds m x=some c
 | [],m,_,e=>by simp[valueAt] at e
 | (n,v)::r,m,hn,e=>by
  simp only[List.map_cons,List.nodup_cons] at hn
  rw[valueAt_cons] at e
  unfold bindC
  by_cases h:n=x
  ·subst h
   rw[if_pos rfl] at e
   cases e
   rw[bindC_not r _ hn.1,if_neg (by rw[hx];decide),if_pos rfl]
  ·rw[if_neg h] at e
   exact bindC_at hx r _ hn.2 e
theorem RepKV.at {κ:Type} [DecidableEq κ] {g:Gh} {h:Heap} {xs:List (κ×V)} {ys:List (κ×Value)} (x:RepKV g h xs ys) {k:κ} {v:V} (e:Mine.look k xs=some v):∃ c,valueAt ys k=some c/\RepV g h v c:=by
 rcases x.look k with ⟨e1,_⟩ | ⟨v',c,e1,e2,r⟩
 ·rw[e] at e1;cases e1
 ·rw[e] at e1;cases e1;exact⟨c,e2,r⟩
theorem RepO.gho {g g':Gh} {h:Heap} {a:Addr} {ao:AO} (x:RepO d g h a ao) (h1:∀ y,g y = .frz->g' y = .frz) (h2:∀ y,g y = .own a->g' y = .own a):RepO d g' h a ao :=
 x.mv (fun _ e=>e) (fun b o e eo=>⟨h1 b e,eo⟩) fun y o e eo=>⟨h2 y e,eo⟩
open Classical in
noncomputable def gIn (g:Gh) (h:Heap) (L L':Addr):Gh:=fun x=>if (h.get? x).isSome then (if g x = .own L then (if x=L then .frm else .prot) else g x) else .own L'
open Classical in
noncomputable def gOut (g:Gh) (h:Heap) (L:Addr) (E2:Gh):Gh:=fun x=>if (h.get? x).isSome=true/\g x = .own L then .own L else E2 x
open Classical in
theorem gIn_some {g:Gh} {h:Heap} {L L' x:Addr} {o:Obj} (e:h.get? x=some o):gIn g h L L' x=if g x = .own L then (if x=L then .frm else .prot) else g x:=by unfold gIn;rw[e];rfl
theorem gIn_keep {g:Gh} {h:Heap} {L L' x:Addr} {o:Obj} (e:h.get? x=some o) (hn:g x ≠ .own L):gIn g h L L' x=g x:=by rw[gIn_some e,if_neg hn]
theorem RepO.in {g g':Gh} {h h':Heap} {b:Addr} {ao:AO} (x:RepO d g h b ao) (k:∀ y o,h.get? y=some o->(g y = .frz\/g y = .own b)->g' y=g y/\h'.get? y=some o) (hb:g b = .own b):RepO d g' h' b ao :=
 x.mv (fun o e=>(k b o e (.inr hb)).2) (fun a o e eo=>⟨(k a o eo (.inl e)).1.trans e,(k a o eo (.inl e)).2⟩) fun y o e eo=>⟨(k y o eo (.inr e)).1.trans e,(k y o eo (.inr e)).2⟩
noncomputable abbrev cxOf (A:Around) (fd:FuncData) (L fa:Addr):Cx:=⟨A.deeper (callEnvC fd L fa),callEnvC fd L fa,fun _ _=>False⟩
theorem lookup_mem {k:Str} {a:Addr}:∀ {l:List (Str×Addr)},l.lookup k=some a->(k,a)∈l
 | [],e=>nomatch e
 | (k',a')::r,e=>by
  simp only[List.lookup_cons] at e
  split at e
  ·rename_i h;cases e;rw[eq_of_beq h];exact .head _
  ·exact .tail _ (lookup_mem e)
noncomputable abbrev CodeV (d:Wd) (c:Cx) (f:Value) (vs:List V) (ks:List (Str×V)) (σ:St) (K:V->St->Prop):Prop :=
 ∀ g s xs ys,Rep d g c.A c.env σ s->RepVs g s.heap vs xs->RepVs g s.heap (ks.map Prod.snd) ys ->
  codeAny (model d.prog d.w) c.A (.call f ⟨xs,(ks.map Prod.fst).zip ys⟩) (fun r s'=>match r with | .ok (.ret v)=>PostQ d c g s RepV K v s' | .ok _=>False | .error e=>PostX d c g s e s') s
theorem pw_inj {y z:Str} {a:Addr} {l:List (Str×Addr)} (hp:l.Pairwise fun x y=>x.2≠y.2) (h1:(y,a)∈l) (h2:(z,a)∈l):y=z:=by
 induction l with
 | nil=>cases h1
 | cons p l ih =>
  obtain hp:=List.pairwise_cons.mp hp
  exact (List.mem_cons.mp h1).elim (fun q1=>(List.mem_cons.mp h2).elim (fun q2=>congrArg Prod.fst (q1.trans q2.symm)) fun q2=>absurd (congrArg Prod.snd q1.symm) (hp.1 (z,a) q2))
   fun q1=>(List.mem_cons.mp h2).elim (fun q2=>absurd (congrArg Prod.snd q2.symm) (hp.1 (y,a) q1)) fun q2=>ih hp.2 q1 q2
theorem frR_call {fd:FuncData} {fa:Addr} {E1 g':Gh} {E9:Heap} {bs:List (Str×V)} {binds:List (Str×Value)} {J5 s':Shared} {env:Env} (he:env=callEnvC fd J5.heap.objs.size fa)
  (x:InCallC J5 env.locals (bindL env.kindOf binds fun _=>none) env.cells (bindC env.kindOf binds fun _=>none) s') (hnd:(binds.map (·.1)).Nodup)
  (hkind:∀ L,(bs.map (·.1)).all (fun x=>fd.scope.names.lookup x == some .local||(fd.scope.names.lookup x == some .cell&&((cellsFrom L fd.scope.names []).lookup x).isSome))=true)
  (rb:RepKV E1 E9 bs binds) (kin:∀ b o,E1 b = .frz->E9.get? b=some o->g' b = .frz/\s'.heap.get? b=some o) (gnew:∀ b,J5.heap.objs.size<=b->g' b = .own J5.heap.objs.size)
  (hk:fd.scope.kind = .function) (hg:fd.globals=mainGlobals) (hbi:fd.builtins=builtinsNs) (hlow:d.hB.objs.size<=J5.heap.objs.size):FrR d g' env (lk bs) s'.heap:=by
 subst he
 refine ⟨⟨_,x.toInCall.ns,fun y v e1 e2=>elEA (rb.at e1) fun cv e3 rv'=>⟨cv,bindL_at e2 binds _ hnd e3,rv'.mono kin⟩⟩,fun y v e1 e2=>?_,gnew _ (Nat.le_refl _),fun _ y a e=>?_,fun hf=>(by cases hf),fun y z a e1 e2=>pw_inj x.apart (lookup_mem e1) (lookup_mem e2),hk,hg,hbi,hlow⟩
 ·refine elEA (rb.at e1) fun cv e3 rv'=>?_
  obtain this:=List.all_eq_true.mp (hkind (J5.heap.objs.size+1)) y (look_mem e1)
  have e2':fd.scope.names.lookup y=some .cell:=e2
  rw[e2'] at this
  refine elE (Option.isSome_iff_exists.mp this) fun a ha=>?_
  obtain hc:=x.cell y a ha
  rw[bindC_at (x:=y) e2 binds _ hnd e3] at hc
  exact⟨a,cv,ha,hc,rv'.mono kin⟩
 ·obtain hlt:=x.above y a (lookup_mem e)
  exact⟨gnew _ (Nat.le_of_lt hlt),Nat.ne_of_gt hlt,_,x.cell y a e⟩
theorem CodeV_def {fa:Addr} {I5:Obj} {fd:FuncData} {body:List Stmt} {vs:List V} {ks bs:List (Str×V)} {K:V->St->Prop}
  (hroom:c.A.depth < recursionLimit) (ho:d.K.lookup fa=some I5) (hfd:I5.data = .func fd) (hcd:codeIn d.K fd.code fd.qualname=true) (hbody:fd.body = .stmts body)
  (hbind:BindV d c fd vs ks bs σ) (hnd:decide (bs.map (·.1)).Nodup=true)
  (hkind:∀ L,(bs.map (·.1)).all (fun x=>fd.scope.names.lookup x == some .local||(fd.scope.names.lookup x == some .cell&&((cellsFrom L fd.scope.names []).lookup x).isSome))=true)
  (hg:fd.globals=mainGlobals) (hbi:fd.builtins=builtinsNs) (hclo:fd.closure=[])
  (h:∀ L,WB d (cxOf c.A fd L fa) body ⟨lk bs,σ.hp⟩ (KF K σ))
  (hco:fd.scope.isCoroutine=false:=by kernel_rfl) (hgen:fd.scope.isGenerator=false:=by kernel_rfl) (hk:fd.scope.kind = .function:=by kernel_rfl) :
  CodeV d c (.ref fa) vs ks σ K:=by
 intro g s xs ys r rv rk
 refine (codeAny_call_function hroom (r.inK _ _ ho) hfd hco hgen hbody (codeRec_of r.inK hcd) ?_)
 refine hbind g s xs ys r rv rk _ _ fun E1 J6 binds I7 G7 rb=>?_
 obtain hkeys:binds.map (·.1)=bs.map (·.1):=rb.keys.symm
 obtain hnd':(binds.map (·.1)).Nodup:=by simp only[hkeys];exact of_decide_eq_true hnd
 rw[hclo]
 refine wpAny_newFunctionEnv_cells hk (fun x hx=>?_) fun env he J7 x=>?_
 ·obtain this:=List.all_eq_true.mp (hkind (J6.heap.objs.size+1)) x.1 (hkeys ▸ List.mem_map_of_mem hx)
  simp only[Bool.or_eq_true,Bool.and_eq_true,beq_iff_eq] at this
  exact this
 subst he
 refine ⟨I7.ok.top.nolimit.keeps fun b o e=>x.toInCall.keep b o (I7.base b o e).2,codeAny_func ?_⟩
 obtain hLsz:=I7.size
 refine elEE x.toInCall.same fun hh tk hq2=>?_
 subst hq2
 have hold:∀ b o,J6.heap.get? b=some o->hh.get? b=some o:=x.toInCall.keep
 obtain hnew:∀ b,J6.heap.objs.size<=b->J6.heap.get? b=none:=fun b hb=>by
  cases q:J6.heap.get? b with
  | none=>rfl
  | some o=>exact absurd (Heap.lt_size q) (Nat.not_lt.mpr hb)
 let L':=J6.heap.objs.size
 obtain gnew:∀ b,L'<=b->gIn E1 J6.heap c.env.locals L' b = .own L':=fun b hb=>by unfold gIn;rw[hnew b hb];rfl
 have kin:∀ b o,E1 b = .frz->J6.heap.get? b=some o->gIn E1 J6.heap c.env.locals L' b = .frz/\hh.get? b=some o:=fun b o e eo =>
  ⟨by rw[gIn_keep eo (by rw[e];exact Ow.noConfusion),e],hold b o eo⟩
 obtain R0:Rep d (gIn E1 J6.heap c.env.locals L') (c.A.deeper (callEnvC fd L' fa)) (callEnvC fd L' fa) ⟨lk bs,σ.hp⟩ { J6 with heap:=hh,toks:=tk }:=by
  refine ⟨sh_ch I7.sh,fun b o e=>kin b o (I7.base b o e).1 (I7.base b o e).2,frR_call rfl x hnd' hkind rb kin gnew hk hg hbi I7.low,?_,fun a ao e=>?_,I7.ok⟩
  ·refine elEA I7.frs fun fs e f=>?_
   refine ⟨callEnvC fd L' fa::fs,by show c.A.frames.map _=_;rw[e];rfl,fun en hen=>?_⟩
   rcases List.mem_cons.mp hen with rfl | hen
   ·refine elEEE x.toInCall.ns fun o es ep zz257=>?_;obtain ho':=zz257.1;obtain hd':=zz257.2.1
    exact⟨by (show fd.scope.kind≠_);rw[hk];(intro q;cases q),L',o,rfl,I7.low,.inr rfl,ho',es,ep,hd'⟩
   ·refine elAEEA (f en hen) fun e1 L o e2 zz0=>?_;refine elAAA zz0 fun e3 e4 e5 zz1=>?_;refine elEE zz1 fun es n e6=>?_
    refine ⟨e1,L,o,e2,e3,.inl ?_,hold _ _ e5,es,n,e6⟩
    rw[gIn_some e5]
    rcases e4 with q | q
    ·rw[if_neg (by rw[q];exact Ow.noConfusion),q]
    ·rw[q,if_pos I7.fr.own,if_pos rfl]
  ·refine elAAA (I7.ob a ao e) fun e1 e2 e3 e4=>?_
   refine elE (I7.lt e) fun o eo=>?_
   obtain hne:∀ y o',J6.heap.get? y=some o'->(E1 y = .frz\/E1 y = .own a)->gIn E1 J6.heap c.env.locals L' y=E1 y/\hh.get? y=some o':=fun y o' ey hy =>
    ⟨gIn_keep ey (by rcases hy with q | q<;>rw[q];exact Ow.noConfusion;exact Ow.own_ne e2),hold _ _ ey⟩
   exact⟨(hne a o eo (.inr e1)).1.trans e1,Nat.ne_of_lt (Heap.lt_size eo),e3,e4.in hne e1⟩
 refine wpAny_mono (h L' _ _ R0) (fun f J8 zz=>zz.elim fun E3 f' σ3 I9 G9 rf hK=>?_) (fun e J8 zz=>zz.elim fun uu uu uu uu uu uu hF=>hF.elim)
 have back:∀ b o,J6.heap.get? b=some o->E1 b = .own c.env.locals->(E3 b = .prot\/E3 b = .frm)/\∃ o',J8.heap.get? b=some o'/\o'.data=o.data/\(b≠c.env.locals->o'=o):=fun b o e eg=>by
  by_cases hb:b=c.env.locals
  ·have q:gIn E1 J6.heap c.env.locals L' b = .frm:=by rw[gIn_some e,if_pos eg,if_pos hb]
   obtain q1:=(G9.frm b o q (hold b o e)).1;refine elE (G9.frm b o q (hold b o e)).2 fun sl q2=>?_
   exact⟨.inr q1,_,q2,rfl,fun z=>absurd hb z⟩
  ·have q:gIn E1 J6.heap c.env.locals L' b = .prot:=by rw[gIn_some e,if_pos eg,if_neg hb]
   obtain q1:=(G9.prot b o q (hold b o e)).1;obtain q2:=(G9.prot b o q (hold b o e)).2
   exact⟨.inl q1,_,q2,rfl,fun _=>rfl⟩
 have gout:∀ b o,J6.heap.get? b=some o->E1 b = .own c.env.locals->gOut E1 J6.heap c.env.locals E3 b = .own c.env.locals:=fun b o e eg=>by unfold gOut;rw[if_pos ⟨by rw[e];rfl,eg⟩]
 have gskip:∀ b,(E3 b ≠ .prot/\E3 b ≠ .frm)->gOut E1 J6.heap c.env.locals E3 b=E3 b:=fun b hb=>by
  unfold gOut
  refine if_neg fun q=>?_
  refine elE (Option.isSome_iff_exists.mp q.1) fun o eo=>?_
  rcases (back b o eo q.2).1 with z | z
  ·exact hb.1 z
  ·exact hb.2 z
 have gkeep:∀ b,E1 b ≠ .own c.env.locals->gOut E1 J6.heap c.env.locals E3 b=E3 b:=fun b hb=>by unfold gOut;rw[if_neg fun q=>hb q.2]
 have kout:∀ b o,E1 b = .frz->J6.heap.get? b=some o->gOut E1 J6.heap c.env.locals E3 b = .frz/\J8.heap.get? b=some o:=fun b o e eo=>by
  obtain e1:=(kin b o e eo).1;obtain e2:=(kin b o e eo).2
  obtain e3:=(G9.frz b o e1 e2).1;obtain e4:=(G9.frz b o e1 e2).2
  exact⟨(gkeep b (by rw[e];exact Ow.noConfusion)).trans e3,e4⟩
 obtain up:∀ b o,E3 b = .frz->J8.heap.get? b=some o->gOut E1 J6.heap c.env.locals E3 b = .frz/\J8.heap.get? b=some o:=fun b o e eo =>
  ⟨(gskip b ⟨by rw[e];exact Ow.noConfusion,by rw[e];exact Ow.noConfusion⟩).trans e,eo⟩
 have kp:Kp E1 J6.heap (gOut E1 J6.heap c.env.locals E3) J8.heap:=by
  refine ⟨kout,fun b o e eo=>?_,fun b o e eo=>?_⟩
  ·have hn:E1 b ≠ .own c.env.locals:=by rw[e];exact Ow.noConfusion
   obtain e3:=(G9.prot b o ((gIn_keep eo hn).trans e) (hold b o eo)).1;obtain e4:=(G9.prot b o ((gIn_keep eo hn).trans e) (hold b o eo)).2
   exact⟨(gkeep b hn).trans e3,e4⟩
  ·have hn:E1 b ≠ .own c.env.locals:=by rw[e];exact Ow.noConfusion
   obtain e3:=(G9.frm b o ((gIn_keep eo hn).trans e) (hold b o eo)).1;obtain e4:=(G9.frm b o ((gIn_keep eo hn).trans e) (hold b o eo)).2
   exact⟨(gkeep b hn).trans e3,e4⟩
 have R1:Rep d (gOut E1 J6.heap c.env.locals E3) c.A c.env ⟨σ.loc,σ3.hp⟩ J8:=by
  refine ⟨I9.sh,fun b o e=>?_,⟨?_,fun y v e1 e2=>?_,?_,fun hf y b e=>?_,fun hf y b e=>?_,I7.fr.cinj,I7.fr.fn,I7.fr.glob,I7.fr.bi,I7.fr.low⟩,?_,fun a ao e=>?_,I7.ok⟩
  ·obtain e1:=(I7.base b o e).1;obtain e2:=(I7.base b o e).2
   exact kout b o e1 e2
  ·refine elEA I7.fr.ns fun m hm hmv=>?_
   refine ⟨m,?_,fun y v e1 e2=>?_⟩
   ·refine elEEEAA hm fun o es ep eo hd' z=>?_;try clear hm
    refine elAEAA (back _ o eo I7.fr.own) fun uu o' q1 q2 uu=>?_
    exact⟨o',es,ep,q1,q2.trans hd',z⟩
   ·refine elE (hmv y v e1 e2) fun cv zz263=>?_;obtain e3:=zz263.1;obtain rv':=zz263.2
    exact⟨cv,e3,rv'.mono kout⟩
  ·refine elEEAA (I7.fr.cell y v e1 e2) fun a cv e3 hc rv'=>?_
   refine ⟨a,cv,e3,?_,rv'.mono kout⟩
   refine elEA hc fun o eo hd'=>?_
   try clear hc
   cases hf:c.env.func.isSome with
   | true =>
    refine elAA (I7.fr.ownc hf y a e3) fun q1 q2 uu=>?_
    refine elAEAA (back a o eo q1) fun uu o' z1 uu z3=>?_
    exact⟨o,by rw[z1,z3 q2],hd'⟩
   | false =>
    obtain q1:=(I7.fr.ownp hf y a e3).1
    exact⟨o,(kp.prot a o q1 eo).2,hd'⟩
  ·refine elEA I7.fr.ns fun m hn1 uu=>?_;refine elEEEA hn1 fun o es ep eo uu=>?_;try clear hn1
   exact gout _ o eo I7.fr.own
  ·refine elAAEE (I7.fr.ownc hf y b e) fun q1 q2 v o zz0=>?_;refine elA zz0 fun eo hd'=>?_
   refine elAEAA (back b o eo q1) fun uu o' z1 uu z3=>?_
   exact⟨gout b o eo q1,q2,v,o,by rw[z1,z3 q2],hd'⟩
  ·refine elAEEA (I7.fr.ownp hf y b e) fun q1 v o eo hd'=>?_
   obtain z1:=(kp.prot b o q1 eo).1;obtain z2:=(kp.prot b o q1 eo).2
   exact⟨z1,v,o,z2,hd'⟩
  ·refine elEA I7.frs fun fs e f=>?_
   refine ⟨fs,e,fun en hen=>?_⟩
   refine elAEEA (f en hen) fun e1 L o e2 zz0=>?_
   obtain e3:=zz0.1;obtain e4:=zz0.2.1;obtain e5:=zz0.2.2.1;obtain zz1:=zz0.2.2.2
   refine elEE zz1 fun es n e6=>?_
   rcases e4 with q | q
   ·refine elAE (kp.frm L o q e5) fun z1 sl z2=>?_
    exact⟨e1,L,_,e2,e3,.inl z1,z2,es,n,e6⟩
   ·subst q
    refine elAEAA (back _ o e5 I7.fr.own) fun uu o' z1 z2 uu=>?_
    exact⟨e1,_,o',e2,e3,.inr rfl,z1,es,n,z2.trans e6⟩
  ·refine elAAA (I9.ob a ao e) fun e1 e2 e3 e4=>?_
   have ga:gOut E1 J6.heap c.env.locals E3 a = .own a:=(gskip a ⟨by rw[e1];exact Ow.noConfusion,by rw[e1];exact Ow.noConfusion⟩).trans e1
   refine ⟨ga,fun q=>?_,e3,e4.gho (fun y ey=>(gskip y ⟨by rw[ey];exact Ow.noConfusion,by rw[ey];exact Ow.noConfusion⟩).trans ey) fun y ey=>(gskip y ⟨by rw[ey];exact Ow.noConfusion,by rw[ey];exact Ow.noConfusion⟩).trans ey⟩
   subst q
   refine elEA I7.fr.ns fun m hn1 uu=>?_
   refine elEEEA hn1 fun o es ep eo uu=>?_
   try clear hn1
   rcases (back _ o eo I7.fr.own).1 with z | z<;>rw[z] at e1<;>cases e1
 have fin:∀ v' v,RepV E3 J8.heap v' v->K v' ⟨σ.loc,σ3.hp⟩->PostQ d c g s RepV K v J8:=fun v' v rvv hK'=>⟨_,v',_,R1,G7.trans kp,rvv.mono up,hK'⟩
 cases rf with
 | next=>exact fin .none .none (.raw _) hK
 | brk=>exact fin .none .none (.raw _) hK
 | cont=>exact fin .none .none (.raw _) hK
 | ret q=>exact fin _ _ q hK
theorem CallV_def {fa:Addr} {I5:Obj} {fd:FuncData} {body:List Stmt} {vs:List V} {ks bs:List (Str×V)} {K:V->St->Prop}
  (hroom:c.A.depth < recursionLimit) (ho:d.K.lookup fa=some I5) (hfd:I5.data = .func fd) (hcd:codeIn d.K fd.code fd.qualname=true) (hbody:fd.body = .stmts body)
  (hbind:BindV d c fd vs ks bs σ) (hnd:decide (bs.map (·.1)).Nodup=true)
  (hkind:∀ L,(bs.map (·.1)).all (fun x=>fd.scope.names.lookup x == some .local||(fd.scope.names.lookup x == some .cell&&((cellsFrom L fd.scope.names []).lookup x).isSome))=true)
  (hg:fd.globals=mainGlobals) (hbi:fd.builtins=builtinsNs) (hclo:fd.closure=[])
  (h:∀ L,WB d (cxOf c.A fd L fa) body ⟨lk bs,σ.hp⟩ (KF K σ))
  (hco:fd.scope.isCoroutine=false:=by kernel_rfl) (hgen:fd.scope.isGenerator=false:=by kernel_rfl) (hk:fd.scope.kind = .function:=by kernel_rfl) :
  CallV d c (.ref fa) vs ks σ K:=fun g s xs ys r rv rk=>wpAny_call (CodeV_def hroom ho hfd hcd hbody hbind hnd hkind hg hbi hclo h hco hgen hk g s xs ys r rv rk)
structure FnOk (d:Wd) (fa:Addr) (fd:FuncData) (body:List Stmt) (names:List Str):Prop where
 ex:∃ I5,d.K.lookup fa=some I5/\I5.data = .func fd
 cd:codeIn d.K fd.code fd.qualname=true
 bd:fd.body = .stmts body
 nd:decide names.Nodup=true
 kind:∀ L,names.all (fun x=>fd.scope.names.lookup x == some .local||(fd.scope.names.lookup x == some .cell&&((cellsFrom L fd.scope.names []).lookup x).isSome))=true
 g:fd.globals=mainGlobals
 bi:fd.builtins=builtinsNs
 clo:fd.closure=[]
 co:fd.scope.isCoroutine=false
 gen:fd.scope.isGenerator=false
 k:fd.scope.kind = .function
theorem CodeV_ok {fa:Addr} {fd:FuncData} {body:List Stmt} {vs:List V} {ks bs:List (Str×V)} {K:V->St->Prop} (F:FnOk d fa fd body (bs.map (·.1))) (hroom:c.A.depth < recursionLimit) (hbind:BindV d c fd vs ks bs σ) (h:∀ L,WB d (cxOf c.A fd L fa) body ⟨lk bs,σ.hp⟩ (KF K σ)):CodeV d c (.ref fa) vs ks σ K :=
 elEA F.ex fun o h1 h2=>CodeV_def hroom h1 h2 F.cd F.bd hbind F.nd F.kind F.g F.bi F.clo h F.co F.gen F.k
theorem CallV_ok {fa:Addr} {fd:FuncData} {body:List Stmt} {vs:List V} {ks bs:List (Str×V)} {K:V->St->Prop} (F:FnOk d fa fd body (bs.map (·.1))) (hroom:c.A.depth < recursionLimit) (hbind:BindV d c fd vs ks bs σ) (h:∀ L,WB d (cxOf c.A fd L fa) body ⟨lk bs,σ.hp⟩ (KF K σ)):CallV d c (.ref fa) vs ks σ K:=fun g s xs ys r rv rk =>
 wpAny_call (CodeV_ok F hroom hbind h g s xs ys r rv rk)
end
section
variable {d:Wd} {c:Cx} {σ:St}
theorem W_glob {x:Str} {pos:Pos} {v:Value} {K:V->St->Prop} (e:nsIn d.K mainGlobals x=some (some v)) (h:K (.raw v) σ) (hx:c.env.kindOf x=some .globalImplicit) (hd:(x == ("__debug__":Str))=false):W d c (.Name x pos) σ K:=fun g s r=>by
 refine elE r.fr0 fun m F=>?_
 exact nameG_K F r.ok.inK r.ok.top e (.here r (.raw _) h) r.fr.glob r.fr.fn hx hd
theorem W_bltn {x:Str} {pos:Pos} {v:Value} {K:V->St->Prop} (e:nsIn d.K mainGlobals x=some none) (hn:(x == ("__name__":Str))=false) (eb:bootBuiltins x=some v) (h:K (.raw v) σ) (hx:c.env.kindOf x=some .globalImplicit) (hd:(x == ("__debug__":Str))=false):W d c (.Name x pos) σ K:=fun g s r=>by
 refine elE r.fr0 fun m F=>?_
 exact Name_function_global r.fr.fn hx (loadGlobal_builtin (env:=c.env) (by rw[r.fr.glob];exact r.ok.top.g.keeps F.keep) (mg_none_of r.ok.inK r.ok.top.g e) (by rw[r.fr.bi];exact r.ok.top.b.keeps F.keep)
  (by rw[r.ok.top.builtins x (ne_of_beq_false hn)];exact eb) (.here r (.raw _) h)) hd
noncomputable def RepA (g:Gh) (h:Heap) (a:List V×List (Str×V)) (x:Args):Prop:=RepVs g h a.1 x.pos/\∃ ys,RepVs g h (a.2.map Prod.snd) ys/\x.kw=(a.2.map Prod.fst).zip ys
noncomputable abbrev WK (d:Wd) (c:Cx) (pos:Pos) (kws:List Keyword) (σ:St) (K:List V->St->Prop):Prop:=Ev d c RepVs (evalAll ((backToKw pos (keywordEach kws c.env)).map (·.2))) σ K
noncomputable abbrev WA (d:Wd) (c:Cx) (pos:Pos) (args:List Expr) (kws:List Keyword) (σ:St) (K:List V->List (Str×V)->St->Prop):Prop :=
 ∀ f,Ev d c RepA (evalArgs f true (backTo pos (starEach args c.env)) (backToKw pos (keywordEach kws c.env))) σ fun a=>K a.1 a.2
theorem WK_nil {pos:Pos} {K:List V->St->Prop} (h:K [] σ):WK d c pos [] σ K:=fun g s r=>kwAll_nil (.here r .nil h)
theorem WK_cons {pos p:Pos} {name:Str} {e:Expr} {rest:List Keyword} {K:List V->St->Prop} (h:W d c e σ fun v σ1=>WK d c pos rest σ1 fun vs L8=>K (v::vs) L8):WK d c pos (⟨some name,e,p⟩::rest) σ K:=fun g s r =>
 kwAll_cons (Ev.b (h g s r) fun x J6 E1 v σ1 h1 h2 h3 h4=>Ev.bk (h4 E1 J6 h1) h2 fun ys J7 E2 vs L8 k1 k2 k3 k4=>⟨E2,_,L8,k1,h2.trans k2,.cons (h3.kp k2) k3,k4⟩)
theorem WA_nil {pos:Pos} {K:List V->List (Str×V)->St->Prop} (h:K [] [] σ):WA d c pos [] [] σ K:=fun f g s r=>evalArgs_nil3 (.here r (b:=([],[])) ⟨.nil,[],.nil,rfl⟩ h)
noncomputable abbrev PosK (K:List V->List (Str×V)->St->Prop) (vs:List V) (σ:St):Prop:=K vs [] σ
theorem WA_pos {pos:Pos} {e:Expr} {rest:List Expr} {K:List V->List (Str×V)->St->Prop} (h:WL d c pos (e::rest) σ (PosK K))
  (he:starEach (e::rest) c.env=(false,eval e c.env)::starEach rest c.env:=by rfl):WA d c pos (e::rest) [] σ K:=fun f g s r=>by
 unfold WL at h
 rw[he] at h ⊢
 exact evalArgs_plain (Ev.b (h g s r) fun x J6 E1 vs σ1 h1 h2 h3 h4=>⟨E1,(vs,[]),σ1,h1,h2,⟨h3,[],.nil,rfl⟩,h4⟩)
theorem WA_kw {pos:Pos} {e:Expr} {rest:List Expr} {kws:List Keyword} {names:List Str} {K:List V->List (Str×V)->St->Prop} (hall:(backToKw pos (keywordEach kws c.env)).all (·.1.isSome)=true)
  (hn:(backToKw pos (keywordEach kws c.env)).filterMap (·.1)=names)
  (h:WL d c pos (e::rest) σ fun vs σ1=>WK d c pos kws σ1 fun ks L8=>names.length=ks.length/\K vs (names.zip ks) L8)
  (he:starEach (e::rest) c.env=(false,eval e c.env)::starEach rest c.env:=by rfl):WA d c pos (e::rest) kws σ K:=fun f g s r =>
 evalArgs_kw2 hall (Ev.b (h g s r) fun x J6 E1 vs σ1 h1 h2 h3 h4=>Ev.bk (h4 E1 J6 h1) h2 fun ys J7 E2 ks L8 k1 k2 k3 zk=>elA zk fun k4 k5=>by
  refine ⟨E2,(vs,names.zip ks),L8,k1,h2.trans k2,⟨h3.kp k2,ys,?_,?_⟩,k5⟩
  ·rw[show ((names.zip ks).map Prod.snd)=ks from List.map_snd_zip (Nat.le_of_eq k4.symm)];exact k3
  ·rw[hn];show names.zip ys=((names.zip ks).map Prod.fst).zip ys;rw[List.map_fst_zip (Nat.le_of_eq k4)]) he
noncomputable abbrev WC (d:Wd) (c:Cx) (pos:Pos) (f:Value) (first:List V) (args:List Expr) (kws:List Keyword) (σ:St) (K:V->St->Prop):Prop :=
 ∀ g s xs,Rep d g c.A c.env σ s->RepVs g s.heap first xs->wpAny (model d.prog d.w) c.A (callWith pos f xs (backTo pos (starEach args c.env)) (backToKw pos (keywordEach kws c.env))) (PostQ d c g s RepV K) (PostX d c g s) s
noncomputable abbrev ClK (d:Wd) (c:Cx) (f:Value) (first:List V) (K:V->St->Prop) (vs:List V) (ks:List (Str×V)) (σ:St):Prop:=CallV d c f (first++vs) ks σ K
theorem WC_K {pos:Pos} {f:Value} {first:List V} {args:List Expr} {kws:List Keyword} {K:V->St->Prop} (hk:keepIn d.K f=true) (hplain:((backTo pos (starEach args c.env)).any (·.1)||(backToKw pos (keywordEach kws c.env)).any (·.1.isNone))=false)
  (h:WA d c pos args kws σ (ClK d c f first K)):WC d c pos f first args kws σ K:=fun g s xs r rf =>
 callWith_of (P:=d.K.In) hplain (keeps_K hk) (Ev.b (h f g s r) fun a J6 E1 b σ1 h1 h2 hn5 h4=>elAEA hn5 fun h3 ys h5 h6=>⟨h1.inK,by
  simp only[h6]
  exact Ev.t (h4 E1 J6 _ _ h1 ((rf.kp h2).append h3) h5) h2⟩)
theorem WC_bltn {pos:Pos} {id:String} {first:List V} {args:List Expr} {K:V->St->Prop} (hplain:(backTo pos (starEach args c.env)).any (·.1)=false)
  (h:WA d c pos args [] σ (ClK d c (.builtin id) first K)):WC d c pos (.builtin id) first args [] σ K:=fun g s xs r rf =>
 Calls.callWith_builtin hplain (Ev.b (h _ g s r) fun a J6 E1 b σ1 h1 h2 hn5 h4=>elAEA hn5 fun h3 ys h5 h6=>by
  simp only[h6]
  exact Ev.t (h4 E1 J6 _ _ h1 ((rf.kp h2).append h3) h5) h2)
theorem WC_type {pos:Pos} {T:String} {first:List V} {args:List Expr} {K:V->St->Prop} (hplain:(backTo pos (starEach args c.env)).any (·.1)=false)
  (h:WA d c pos args [] σ (ClK d c (.type T) first K)):WC d c pos (.type T) first args [] σ K:=fun g s xs r rf =>
 PyProof.Rows.callWith_type hplain (Ev.b (h _ g s r) fun a J6 E1 b σ1 h1 h2 hn5 h4=>elAEA hn5 fun h3 ys h5 h6=>by
  simp only[h6]
  exact Ev.t (h4 E1 J6 _ _ h1 ((rf.kp h2).append h3) h5) h2)
noncomputable def CallF (d:Wd) (c:Cx) (pos:Pos) (args:List Expr) (kws:List Keyword) (K:V->St->Prop) (f:V) (σ:St):Prop:=match f with
 | .raw fv=>WC d c pos fv [] args kws σ K
 | _=>False
theorem CallF_raw {pos:Pos} {args:List Expr} {kws:List Keyword} {K:V->St->Prop} {fv:Value} (h:WC d c pos fv [] args kws σ K):CallF d c pos args kws K (.raw fv) σ:=h
theorem W_Call {fe:Expr} {args:List Expr} {kws:List Keyword} {pos:Pos} {K:V->St->Prop} (h:W d c fe σ (CallF d c pos args kws K))
  (he:eval (.Call fe args kws pos) c.env=(do callWith pos (<- eval fe c.env) [] (backTo pos (starEach args c.env)) (backToKw pos (keywordEach kws c.env))):=by rfl):W d c (.Call fe args kws pos) σ K:=fun g s r=>by
 simp only[he]
 refine wpAny_bind (Ev.b (h g s r) fun x J6 E1 f σ1 h1 h2 h3 h4=>?_)
 cases f with
 | raw fv=>rw[h3.r];exact Ev.t (h4 E1 J6 [] h1 .nil) h2
 | _=>exact h4.elim
noncomputable def RepFM (g:Gh) (h:Heap) (b:Value×List V) (a:Value×List Value):Prop:=a.1=b.1/\RepVs g h b.2 a.2
noncomputable abbrev GetM (d:Wd) (c:Cx) (o:V) (name:Str) (σ:St) (K:Value->List V->St->Prop):Prop:=∀ pl,Ev1 d c RepFM o (fun x=>getMethod x name pl) σ fun b=>K b.1 b.2
noncomputable abbrev MeK2 (d:Wd) (c:Cx) (pos:Pos) (args:List Expr) (kws:List Keyword) (K:V->St->Prop) (f:Value) (first:List V) (σ:St):Prop:=WC d c pos f first args kws σ K
noncomputable abbrev MeK (d:Wd) (c:Cx) (pos:Pos) (name:Str) (args:List Expr) (kws:List Keyword) (K:V->St->Prop) (ov:V) (σ:St):Prop:=GetM d c ov name σ (MeK2 d c pos args kws K)
theorem W_Meth {o:Expr} {name:Str} {args:List Expr} {kws:List Keyword} {apos pos:Pos} {pl:Sem Bool} {K:V->St->Prop} (h:W d c o σ (MeK d c pos name args kws K))
  (he:eval (.Call (.Attribute o name apos) args kws pos) c.env=(do
   let ov <- eval o c.env
   standAt apos.atName
   let (f,first) <- holding [ov] (getMethod ov name pl)
   callWith pos f first (backTo pos (starEach args c.env)) (backToKw pos (keywordEach kws c.env))):=by rfl):W d c (.Call (.Attribute o name apos) args kws pos) σ K:=fun g s r =>
 methodCall_KW (pl:=pl) (Ev.b (h g s r) fun x J6 E1 ov σ1 h1 h2 h3 h4=>Ev.bk (h4 pl E1 J6 x h1 h3) h2 fun y J7 E2 b L8 k1 k2 hn5 k4=>elA hn5 fun k3 k5=>by
  rw[k3]
  exact Ev.t (k4 E2 J7 _ k1 k5) (h2.trans k2)) he
theorem getM_list {a:Addr} {vs:List V} {name:Str} {id:String} {K:Value->List V->St->Prop} (hp:σ.hp a=some (.list vs)) (slot:Slot "list" name id) (hty:typeOf (.builtin id)=pure (.type "method_descriptor"))
  (h:K (.builtin id) [.obj a] σ):GetM d c (.obj a) name σ K:=fun pl g s x r rx=>by
 rw[rx.r]
 ·
  refine elEEA (r.ob a _ hp).2.2.2 fun items n e z=>?_
  exact getMethod_builtin (T:="list") ⟨_,e,rfl⟩ F.plainAttrs_list slot hty (fun b eb=>by cases eb;exact⟨_,e,rfl⟩) (.here r (b:=(Value.builtin id,[V.obj a])) ⟨rfl,.cons (.raw _) .nil⟩ h)
theorem getM_lst {vs:List V} {name:Str} {id:String} {K:Value->List V->St->Prop} (slot:Slot "list" name id) (hty:typeOf (.builtin id)=pure (.type "method_descriptor"))
  (h:K (.builtin id) [.lst vs] σ):GetM d c (.lst vs) name σ K:=fun pl g s x r rx=>by
 refine elEEEAAA rx.l fun _ _ _ f e z q_rx=>?_
 rw[q_rx]
 ·
  exact getMethod_builtin (T:="list") ⟨_,e,rfl⟩ F.plainAttrs_list slot hty (fun b eb=>by cases eb;exact⟨_,e,rfl⟩) (.here r (b:=(Value.builtin id,[V.lst vs])) ⟨rfl,.cons (q_rx ▸ rx) .nil⟩ h)
theorem getM_dictI {a:Addr} {ep:Nat} {kvs:List (Int×V)} {name:Str} {id:String} {K:Value->List V->St->Prop} (hp:σ.hp a=some (.dictI kvs ep)) (slot:Slot "dict" name id) (hty:typeOf (.builtin id)=pure (.type "method_descriptor"))
  (h:K (.builtin id) [.obj a] σ):GetM d c (.obj a) name σ K:=fun pl g s x r rx=>by
 rw[rx.r]
 ·
  refine elEA (r.ob a _ hp).2.2.2 fun ys hn4 uu=>?_
  refine elEEAA hn4 fun o es ho hc z=>?_
  try clear hn4
  exact getMethod_builtin (T:="dict") ⟨_,ho,hc.1⟩ F.plainAttrs_dict slot hty (fun b eb=>by cases eb;exact⟨_,ho,hc.2.1⟩) (.here r (b:=(Value.builtin id,[V.obj a])) ⟨rfl,.cons (.raw _) .nil⟩ h)
theorem getM_dictS {a:Addr} {kvs:List (Str×V)} {name:Str} {id:String} {K:Value->List V->St->Prop} (hp:σ.hp a=some (.dictS kvs)) (slot:Slot "dict" name id) (hty:typeOf (.builtin id)=pure (.type "method_descriptor"))
  (h:K (.builtin id) [.obj a] σ):GetM d c (.obj a) name σ K:=fun pl g s x r rx=>by
 rw[rx.r]
 ·
  refine elEA (r.ob a _ hp).2.2.2 fun ys hn4 uu=>?_
  refine elEEEAA hn4 fun o es ep ho hc z=>?_
  try clear hn4
  exact getMethod_builtin (T:="dict") ⟨_,ho,hc.1⟩ F.plainAttrs_dict slot hty (fun b eb=>by cases eb;exact⟨_,ho,hc.2.1⟩) (.here r (b:=(Value.builtin id,[V.obj a])) ⟨rfl,.cons (.raw _) .nil⟩ h)
theorem getM_setI {a:Addr} {S:Int->Bool} {n:Nat} {name:Str} {id:String} {K:Value->List V->St->Prop} (hp:σ.hp a=some (.setI S n)) (slot:Slot "set" name id) (hty:typeOf (.builtin id)=pure (.type "method_descriptor"))
  (h:K (.builtin id) [.obj a] σ):GetM d c (.obj a) name σ K:=fun pl g s x r rx=>by
 rw[rx.r]
 ·
  obtain q:=(r.ob a _ hp).2.2.2
  have q':s.heap.SetOf (intKind d.prog d.w) a S n:=q
  exact getMethod_builtin q'.typeIs F.plainAttrs_set slot hty q'.noDict (.here r (b:=(Value.builtin id,[V.obj a])) ⟨rfl,.cons (.raw _) .nil⟩ h)
theorem getM_inst {x C f:Addr} {fs:List (Str×V)} {name:Str} {K:Value->List V->St->Prop} (hp:σ.hp x=some (.inst C fs)) (hl:look name fs=none) (hga:findIn d.K (.ref C) "__getattribute__" = some (some (.builtin "object.__getattribute__"))) (hk:findIn d.K (.ref C) "__getattr__" = some none)
  (hf:findIn d.K (.ref C) name=some (some (.ref f))) (ht:typeIn d.K (.ref f)=some (.type "function")) (h:K (.ref f) [.obj x] σ):GetM d c (.obj x) name σ K:=fun pl g s y r ry=>by
 rw[ry.r]
 ·
  obtain zz0:=(r.ob x _ hp).2.2.2
  refine elEEEAAAA zz0 fun dx es n ho hgd hx hd z=>?_
  rcases z.get name with ⟨e1,e2⟩ | ⟨v',cv,e1,_,_⟩
  ·exact method_fn (od:=some (dictOf es n)) r.inK ⟨ho,rfl,rfl,hd⟩ hga hk hf ht (by show Option.map (·.isSome) (lookIn name (dictOf es n))=_;simp only[lookIn_dict,e2];rfl) (.here r (b:=(Value.ref f,[V.obj x])) ⟨rfl,.cons (.raw _) .nil⟩ h)
  ·simp only[hl] at e1;cases e1
end
section
variable {d:Wd} {c:Cx} {σ:St}
theorem Rep.ch1 {g:Gh} {A:Around} {env:Env} {s:Shared} {a:Addr} {ao:AO} {h':Heap} (r:Rep d g A env σ s) (hp:σ.hp a=some ao) (hs:Heap.SameBut a s.heap h'):Ch env.locals a g s.heap g h':=by
 refine elAAA (r.ob a ao hp) fun e1 e2 uu uu=>?_
 refine elEA r.fr.ns fun m hm uu=>?_
 exact⟨fun x o e hn _=>⟨rfl,(hs.2 x fun q=>hn (q ▸ e1)).trans e⟩,⟨m,hm,hm.sameBut hs (Ne.symm e2)⟩,rfl,r.fr.own⟩
theorem Rep.upd1 {g:Gh} {A:Around} {env:Env} {s:Shared} {a:Addr} {ao ao':AO} {h':Heap} (r:Rep d g A env σ s) (hp:σ.hp a=some ao) (hs:Heap.SameBut a s.heap h') (t:Tok) (h:RepO d g h' a ao') :
  Rep d g A env (σ.upd a ao') { s with heap:=h',toks:=t }/\Kp g s.heap g h':=by
 obtain e1:=(r.ob a ao hp).1;obtain e2:=(r.ob a ao hp).2.1;obtain e3:=(r.ob a ao hp).2.2.1
 obtain k:=r.ch1 hp hs
 exact⟨r.but (o:=some ao') (t:=t) k e2 fun ao'' e=>by cases e;exact⟨e1,e3,h⟩,k.kp⟩
theorem Rep.notSys {g:Gh} {A:Around} {env:Env} {s:Shared} {a:Addr} {ao:AO} (r:Rep d g A env σ s) (hp:σ.hp a=some ao):(a == sysModules)=false:=by
 obtain h1:d.K.lookup 40=some (o40 d.w.params):=by kernel_rfl
 obtain h3:40 < d.hB.objs.size:=Heap.lt_size (r.ok.inK _ _ h1)
 obtain h2:d.hB.objs.size<=a:=(r.ob a ao hp).2.2.1
 obtain this:¬ a=1:=fun q=>by simp only[q] at h2;exact (Y43 h3 h2).elim
 exact beq_eq_false_iff_ne.mpr this
theorem Rep.listUpd {g:Gh} {A:Around} {env:Env} {s:Shared} {a:Addr} {vs ws:List V} {h':Heap} {items':Array Value} {n':Nat} (r:Rep d g A env σ s) (hp:σ.hp a=some (.list vs)) (hs:Heap.SameBut a s.heap h') (t:Tok)
  (e:IsL h' a items' n') (z:RepVs g s.heap ws items'.toList):Rep d g A env (σ.upd a (.list ws)) { s with heap:=h',toks:=t }/\Kp g s.heap g h' :=
 r.upd1 hp hs t ⟨items',n',e,z.kp (r.ch1 hp hs).kp⟩
theorem call_append {a:Addr} {vs:List V} {v:V} {K:V->St->Prop} (hp:σ.hp a=some (.list vs)) (hz:vs.length<=1000) (h:K .none (σ.upd a (.list (vs++[v])))):CallV d c (.builtin "list.append") [.obj a,v] [] σ K:=cl_rv fun g s r uu r2=>by
  refine elEE (r.ob a _ hp).2.2.2 fun items n zz31=>?_;obtain e:=zz31.1;obtain z:=zz31.2
  refine append_at e (fun h' hs ho=>?_) (by simp only[szI z,sizeLine_eq];walk_at "o")
  obtain r':=(r.listUpd hp hs s.toks ho (ws:=vs++[v]) (by simpa using z.append (.cons r2 .nil))).1;obtain k:=(r.listUpd hp hs s.toks ho (ws:=vs++[v]) (by simpa using z.append (.cons r2 .nil))).2
  exact⟨g,.none,_,r',k,.raw _,h⟩
theorem mapSeq_cls {xs:Array Value} {n:Nat} (f:Array Value->Array Value):∃ n',Obj.mapSeq f ({ cls:=.type "list",data:=.seq xs n }:Obj)={ cls:=.type "list",data:=.seq (f xs) n' }:=⟨_,rfl⟩
theorem upd_list {h:Heap} {a:Addr} {items:Array Value} {n:Nat} (f:Array Value->Array Value) (e:IsL h a items n):∃ n',IsL (h.update a (Obj.mapSeq f)) a (f items) n':=by
 refine elE (mapSeq_cls (xs:=items) (n:=n) f) fun n' e'=>?_
 refine ⟨n',?_⟩
 refine (?_:(h.update a (Obj.mapSeq f)).get? a=_)
 rw[Heap.get?_update_self _ e (by rw[e'];rfl),e']
noncomputable def AO.asL:AO->Option (List V)
 | .list vs=>some vs
 | _=>none
theorem AO.asL_ok {o:AO} {vs:List V} (e:o.asL=some vs):o = .list vs:=by
 cases o with
 | list us=>cases e;rfl
 | _=>cases e
noncomputable def refOf:Value->Option Addr
 | .ref a=>some a
 | _=>none
theorem refOf_ok {w:Value} {a:Addr} (e:refOf w=some a):w = .ref a:=by
 cases w with
 | ref b=>cases e;rfl
 | _=>cases e
noncomputable def lstOf (σ:St):V->Option (List V)
 | .lst vs=>some vs
 | .raw w=>(refOf w).bind fun a=>(σ.hp a).bind AO.asL
 | _=>none
theorem lstOf_rep {g:Gh} {s:Shared} {o:V} {x:Value} {vs:List V} (e:lstOf σ o=some vs) (r:Rep d g c.A c.env σ s) (rx:RepV g s.heap o x):∃ b items n,x = .ref b/\IsL s.heap b items n/\RepVs g s.heap vs items.toList:=by
 cases o with
 | lst us=>cases e;exact elEEEAAA rx.l fun a j n _ q z e=>⟨a,j,n,e,q,z⟩
 | raw w=>exact elEA (Option.bind_eq_some_iff.mp e) fun a e1 e=>elEA (Option.bind_eq_some_iff.mp e) fun ao e2 e3=>elEEA (AO.asL_ok e3 ▸ r.ob a _ e2).2.2.2 fun j n e z=>⟨a,j,n,rx.r.trans (refOf_ok e1),e,z⟩
 | _=>cases e
theorem lstOf_obj {a:Addr} {vs:List V} (h:σ.hp a=some (.list vs)):lstOf σ (.obj a)=some vs:=congrArg (Option.bind · AO.asL) h
theorem call_extend {a:Addr} {vs ws:List V} {o:V} {K:V->St->Prop} (hp:σ.hp a=some (.list vs)) (ho:lstOf σ o=some ws) (hz:vs.length<=1000) (hz2:ws.length<=1000) (h:K .none (σ.upd a (.list (vs++ws)))):CallV d c (.builtin "list.extend") [.obj a,o] [] σ K:=cl_rv fun g s r uu r2=>by
  refine elEE (r.ob a _ hp).2.2.2 fun items n zz67=>?_;obtain e:=zz67.1;obtain z:=zz67.2
  refine elEEEAA (lstOf_rep (c:=c) ho r r2) fun b items2 n2 hq3 e2 z2=>?_
  subst hq3
  obtain h1:=szI z
  have h2:=szI z2
  refine call_meets PySem.F.slot_list_extend ⟨_,e,rfl⟩ PySem.F.entry_list_extend (PySem.F.args_list_extend_2 _ _) (PySem.AutoSeq1.list_extend_list_list_0 a items n b items2 n2 ?_ (by simp only[h1,sizeLine_eq];walk_at "o") (by simp only[h1,h2,sizeLine_eq];exact Y163 hz hz2)) ⟨e,e2,?_⟩
  ·delta Builtin.List.listTooLong
   simp only[Bool.and_eq_true,decide_eq_true_eq,not_and]
   intro _
   simp only[h1,h2]
   simp only[sizeLine_eq]
   exact Y164 hz hz2
  ·refine elE (upd_list (fun x=>x++items2) e) fun n' e'=>?_
   obtain r':=(r.listUpd hp (Heap.SameBut.update ..) s.toks e' (ws:=vs++ws) (by simpa using z.append z2)).1;obtain k:=(r.listUpd hp (Heap.SameBut.update ..) s.toks e' (ws:=vs++ws) (by simpa using z.append z2)).2
   exact⟨g,.none,_,r',k,.raw _,h⟩
theorem call_lclear {a:Addr} {vs:List V} {K:V->St->Prop} (hp:σ.hp a=some (.list vs)) (hz:vs.length<=1000) (h:K .none (σ.upd a (.list []))):CallV d c (.builtin "list.clear") [.obj a] [] σ K:=cl_r fun g s r=>by
  refine elEEA (r.ob a _ hp).2.2.2 fun items n e z=>?_
  refine call_meets PySem.F.slot_list_clear ⟨_,e,rfl⟩ PySem.F.entry_list_clear (PySem.F.args_list_clear_1 _) (PySem.AutoSeq1.list_clear_list_0 a items n (by simp only[szI z,sizeLine_eq];exact Y89 hz)) ⟨e,?_⟩
  refine elE (upd_list (fun _=>#[]) e) fun n' e'=>?_
  obtain r':=(r.listUpd hp (Heap.SameBut.update ..) s.toks e' (ws:=[]) .nil).1;obtain k:=(r.listUpd hp (Heap.SameBut.update ..) s.toks e' (ws:=[]) .nil).2
  exact⟨g,.none,_,r',k,.raw _,h⟩
theorem RepVs.snoc {g:Gh} {h:Heap} {vs:List V} {v:V} {cs:List Value} (x:RepVs g h (vs++[v]) cs):∃ ds y,cs=ds++[y]/\RepVs g h vs ds/\RepV g h v y:=by
 induction vs generalizing cs with
 | nil=>exact elEA x.c1 fun y e a=>⟨[],y,e,.nil,a⟩
 | cons u vs ih=>exact elEEAA x.c fun y ys e a r=>elEEAA (ih r) fun ds z e2 q1 q2=>⟨y::ds,z,by simp only[e,e2];rfl,.cons a q1,q2⟩
theorem call_lpop {a:Addr} {vs:List V} {v:V} {K:V->St->Prop} (hp:σ.hp a=some (.list (vs++[v]))) (hz:vs.length<=1000) (h:K v (σ.upd a (.list vs))):CallV d c (.builtin "list.pop") [.obj a] [] σ K:=cl_r fun g s r=>by
  refine elEE (r.ob a _ hp).2.2.2 fun items n zz93=>?_;obtain e:=zz93.1;obtain z:=zz93.2
  obtain hsz:=szI z
  refine elEE z.snoc fun ds y zz98=>?_;obtain hds:=zz98.1;obtain z1:=zz98.2.1;obtain z2:=zz98.2.2
  obtain hi:items=(ds.toArray).push y:=by apply Array.toList_inj.mp;simp only[hds];simp
  subst hi
  refine Copied.pop_at e (y:=y) (by simp) (fun h' hs ho=>?_) (by simp only[hsz,sizeLine_eq];simp;walk_at "o")
  obtain r':=(r.listUpd hp hs s.toks ho (ws:=vs) (by simpa using z1)).1;obtain k:=(r.listUpd hp hs s.toks ho (ws:=vs) (by simpa using z1)).2
  exact⟨g,v,_,r',k,z2.kp k,h⟩
theorem call_len {o:V} {vs:List V} {K:V->St->Prop} (ho:lstOf σ o=some vs) (hz:vs.length<=1000) (h:K (.int vs.length) σ):CallV d c (.builtin "len") [o] [] σ K:=cl_v fun g s r uu r1=>by
                refine elEEEAA (lstOf_rep (c:=c) ho r r1) fun b items n hq3 e z=>?_
                subst hq3
                have hsz:=szI z
                refine call_len_list (IsL.isList e) (by rw[hsz];exact Y85 hz) ?_
                rw[hsz]
                exact .tok r (.int _ _) h
theorem call_lenT {vs:List V} {K:V->St->Prop} (hz:vs.length<=1000) (h:K (.int vs.length) σ):CallV d c (.builtin "len") [.tup vs] [] σ K:=cl_t fun g s r a items n f e z=>by
  obtain hsz:=szI z
  refine P.len_tuple e (by rw[hsz];exact Y90 hz) ?_
  rw[hsz]
  exact .tok r (.int _ _) h
section
variable {κ:Type} [DecidableEq κ] {knd:KeyKind d.prog d.w κ}
theorem RepKV.without {g:Gh} {h:Heap} {xs:List (κ×V)} {ys:List (κ×Value)} (x:RepKV g h xs ys) (k:κ):RepKV g h (xs.filter fun kv=>decide (kv.1≠k)) (without ys k):=by
 unfold PySem.without
 induction x with
 | nil=>exact .nil
 | @cons k' v cv r r' a _ ih =>
  by_cases q:k'=k
  ·rw[List.filter_cons_of_neg (by simpa using q),List.filter_cons_of_neg (by simpa using q)];exact ih
  ·rw[List.filter_cons_of_pos (by simpa using q),List.filter_cons_of_pos (by simpa using q)];exact .cons a ih
theorem RepKV.length {g:Gh} {h:Heap} {xs:List (κ×V)} {ys:List (κ×Value)} (x:RepKV g h xs ys):xs.length=ys.length:=by
 induction x with
 | nil=>rfl
 | cons _ _ ih=>simp[ih]
theorem RepKV.at2 {g:Gh} {h:Heap} {xs:List (κ×V)} {ys:List (κ×Value)} (x:RepKV g h xs ys) (k:κ):(valueAt ys k).isSome=(Mine.look k xs).isSome:=by
 rcases x.look k with ⟨e1,e2⟩ | ⟨v',c,e1,e2,r⟩<;>simp only[e1,e2]<;>rfl
end
theorem sub_dictI {value slice:Expr} {a:Addr} {ep:Nat} {kvs:List (Int×V)} {k:Int} {v:V} {K:V->St->Prop} (hp:σ.hp a=some (.dictI kvs ep)) (hv:look k kvs=some v) (h:K v σ):Sub d c value slice (.obj a) (.int k) σ K:=iv_ri fun g s r t=>by
  refine elEA (r.ob a _ hp).2.2.2 fun ys D' z=>?_
  obtain D:=D'.dictOf
  refine elE (z.at hv) fun cv zz138=>?_;obtain e1:=zz138.1;obtain r1:=zz138.2
  exact sub_ops D.typeIs slot_dict_getitem.lookup (wpAny_getItem_of (intKind_is _ _ k t) D.mapOf e1 (.tok r r1 h))
theorem sub_dictS {value slice:Expr} {a:Addr} {kvs:List (Str×V)} {k:Str} {v:V} {K:V->St->Prop} (hp:σ.hp a=some (.dictS kvs)) (hv:look k kvs=some v) (h:K v σ):Sub d c value slice (.obj a) (.str k) σ K:=iv_rs fun g s r t=>by
  refine elAAAEA (r.ob a _ hp) fun uu uu uu ys D z=>?_
  refine elEA (z.at hv) fun cv e1 r1=>?_
  exact sub_ops D.typeIs slot_dict_getitem.lookup (wpAny_getItem_of (strKind_is _ _ k t) D.mapOf e1 (.tok r r1 h))
theorem cmp_inI {a:Addr} {ep:Nat} {kvs:List (Int×V)} {k:Int} {K:V->St->Prop} (hp:σ.hp a=some (.dictI kvs ep)) (h:K (.bool (look k kvs).isSome) σ):Cmp d c .In (.int k) (.obj a) σ K:=iv_ir fun g s r t=>by
  refine elEA (r.ob a _ hp).2.2.2 fun ys D' z=>?_
  obtain D:=D'.dictOf
  refine wpAny_in_of (intKind_is _ _ k t) (r.notSys hp) D.mapOf ?_
  simp only[z.at2 k];exact .tok r (.raw _) h
theorem cmp_notInI {a:Addr} {ep:Nat} {kvs:List (Int×V)} {k:Int} {K:V->St->Prop} (hp:σ.hp a=some (.dictI kvs ep)) (h:K (.bool (!(look k kvs).isSome)) σ):Cmp d c .NotIn (.int k) (.obj a) σ K:=iv_ir fun g s r t=>by
  refine elEA (r.ob a _ hp).2.2.2 fun ys D' z=>?_
  obtain D:=D'.dictOf
  refine wpAny_notIn_of (intKind_is _ _ k t) (r.notSys hp) D.mapOf ?_
  simp only[z.at2 k];exact .tok r (.raw _) h
theorem cmp_inS {a:Addr} {kvs:List (Str×V)} {k:Str} {K:V->St->Prop} (hp:σ.hp a=some (.dictS kvs)) (h:K (.bool (look k kvs).isSome) σ):Cmp d c .In (.str k) (.obj a) σ K:=iv_sr fun g s r t=>by
  refine elEA (r.ob a _ hp).2.2.2 fun ys D z=>?_
  refine wpAny_in_of (strKind_is _ _ k t) (r.notSys hp) D.mapOf ?_
  simp only[z.at2 k];exact .tok r (.raw _) h
theorem cmp_notInS {a:Addr} {kvs:List (Str×V)} {k:Str} {K:V->St->Prop} (hp:σ.hp a=some (.dictS kvs)) (h:K (.bool (!(look k kvs).isSome)) σ):Cmp d c .NotIn (.str k) (.obj a) σ K:=iv_sr fun g s r t=>by
  refine elEA (r.ob a _ hp).2.2.2 fun ys D z=>?_
  refine wpAny_notIn_of (strKind_is _ _ k t) (r.notSys hp) D.mapOf ?_
  simp only[z.at2 k];exact .tok r (.raw _) h
noncomputable abbrev SetI (d:Wd) (c:Cx) (o i v:V) (σ:St) (K:Unit->St->Prop):Prop:=∀ g s x y z,Rep d g c.A c.env σ s->RepV g s.heap o x->RepV g s.heap i y->RepV g s.heap v z->wpAny (model d.prog d.w) c.A (setItem x y z) (PostQ d c g s REq K) (PostX d c g s) s
theorem set_dictI {a:Addr} {ep:Nat} {kvs:List (Int×V)} {k:Int} {v:V} {K:Unit->St->Prop} (hp:σ.hp a=some (.dictI kvs ep)) (hz:kvs.length<=1000) (h:∀ ep',K () (σ.upd a (.dictI (put k v kvs) ep'))):SetI d c (.obj a) (.int k) v σ K:=iv_riv fun g s r t z rz=>by
  refine elE (r.ob a _ hp).2.2.2 fun ys zz163=>?_;obtain A5:=zz163.1;obtain q:=zz163.2
  obtain D:=A5.dictOf
  refine wpAny_setItem_pairs (intKind_is _ _ k t) D (fun h' A6 hs=>?_) (by simp only[<- q.length,sizeLine_eq];walk_at "o")
  obtain k':=(r.ch1 hp hs).kp
  refine elE A6.dictAt fun ep' D'=>?_
  obtain r':=(r.upd1 (ao':=.dictI (put k v kvs) ep') hp hs (s.toks+1) ⟨_,D',(q.mono k'.frz).put (elEEEA D fun _ _ _ _ z=>z.2.2.2.2) (rz.kp k')⟩).1
  exact⟨g,(),_,r',k',rfl,h ep'⟩
theorem set_dictS {a:Addr} {kvs:List (Str×V)} {k:Str} {v:V} {K:Unit->St->Prop} (hp:σ.hp a=some (.dictS kvs)) (hz:kvs.length<=1000) (h:K () (σ.upd a (.dictS (put k v kvs)))):SetI d c (.obj a) (.str k) v σ K:=iv_rsv fun g s r t z rz=>by
  refine elE (r.ob a _ hp).2.2.2 fun ys zz171=>?_;obtain D:=zz171.1;obtain q:=zz171.2
  refine wpAny_setItem_pairs (strKind_is _ _ k t) D (fun h' D' hs=>?_) (by simp only[<- q.length,sizeLine_eq];walk_at "o")
  obtain k':=(r.ch1 hp hs).kp
  obtain r':=(r.upd1 (ao':=.dictS (put k v kvs)) hp hs (s.toks+1) ⟨_,D',(q.mono k'.frz).put (elEEEA D fun _ _ _ _ z=>z.2.2.2.2) (rz.kp k')⟩).1
  exact⟨g,(),_,r',k',rfl,h⟩
theorem call_getI {a:Addr} {ep:Nat} {kvs:List (Int×V)} {k:Int} {K:V->St->Prop} (hp:σ.hp a=some (.dictI kvs ep)) (h:K ((look k kvs).getD .none) σ):CallV d c (.builtin "dict.get") [.obj a,.int k] [] σ K:=cl_ri fun g s r t=>by
  refine elEA (r.ob a _ hp).2.2.2 fun ys A5 q=>?_
  obtain D:=A5.dictOf
  refine call_meetsIn PySem.F.slot_dict_get D.typeIs PySem.F.entry_dict_get (PySem.F.args_dict_get_2 _ _) (meets_dict_get (intKind d.prog d.w) a (intKind_is _ _ k t) (r.notSys hp)) ⟨_,D.mapOf,?_⟩
  rcases q.look k with ⟨e1,e2⟩ | ⟨v',cv,e1,e2,rv⟩
  ·simp only[e1] at h;rw[e2];exact .tok r (.raw _) h
  ·simp only[e1] at h;rw[e2];exact .tok r rv h
theorem call_popS {a:Addr} {kvs:List (Str×V)} {k:Str} {K:V->St->Prop} (hp:σ.hp a=some (.dictS kvs)) (hz:kvs.length<=1000)
  (h:∀ v,K v (match look k kvs with | some _=>σ.upd a (.dictS (kvs.filter fun kv=>decide (kv.1≠k))) | none=>σ)):CallV d c (.builtin "dict.pop") [.obj a,.str k,.none] [] σ K:=cl_rsr fun g s r t=>by
  refine elEA (r.ob a _ hp).2.2.2 fun ys D q=>?_
  rcases q.look k with ⟨e1,e2⟩ | ⟨v',cv,e1,e2,rv⟩
  ·simp only[e1] at h
   exact call_meetsIn PySem.F.slot_dict_pop D.typeIs PySem.F.entry_dict_pop (PySem.F.args_dict_pop_3 _ _ _) (meets_dict_pop_default (PySem.strKind d.prog d.w) a (strKind_is _ _ k t) (r.notSys hp) rfl _) ⟨_,D,e2,.tok r (.raw _) (h .none)⟩
  ·simp only[e1] at h
   refine call_meetsIn PySem.F.slot_dict_pop D.typeIs PySem.F.entry_dict_pop (PySem.F.args_dict_pop_3 _ _ _) (meets_dict_pop_there (PySem.strKind d.prog d.w) a (strKind_is _ _ k t) [.none] (.inr ⟨_,rfl⟩) rfl) ⟨_,cv,D,by simp only[<- q.length,sizeLine_eq];exact Y89 hz,e2,fun h' D' hs=>?_⟩
   obtain k':=(r.ch1 hp hs).kp
   obtain r':=(r.upd1 (ao':=.dictS (kvs.filter fun kv=>decide (kv.1≠k))) hp hs (s.toks+1) ⟨_,D',(q.mono k'.frz).without k⟩).1
   exact⟨g,v',_,r',k',rv.kp k',h v'⟩
theorem call_sadd {a:Addr} {S:Int->Bool} {n:Nat} {k:Int} {K:V->St->Prop} (hp:σ.hp a=some (.setI S n)) (hz:n<=1000) (h:K .none (σ.upd a (.setI (fun k'=>S k'||decide (k'=k)) (if S k then n else n+1)))):CallV d c (.builtin "set.add") [.obj a,.int k] [] σ K:=cl_ri fun g s r t=>by
  obtain q:=(r.ob a _ hp).2.2.2
  refine call_set_add (knd:=intKind d.prog d.w) (intKind_is _ _ k t) rfl q (by delta scanBound;exact Y88 hz) fun h' hs hS=>?_
  obtain r':=(r.upd1 hp hs (s.toks+1) (ao':=.setI _ _) hS).1;obtain k':=(r.upd1 hp hs (s.toks+1) (ao':=.setI _ _) hS).2
  exact⟨g,.none,_,r',k',.raw _,h⟩
theorem cmp_inSet {a:Addr} {S:Int->Bool} {n:Nat} {k:Int} {K:V->St->Prop} (hp:σ.hp a=some (.setI S n)) (h:K (.bool (S k)) σ):Cmp d c .In (.int k) (.obj a) σ K:=iv_ir fun g s r t=>by
  obtain q:=(r.ob a _ hp).2.2.2
  exact wpAny_inSet_of (knd:=intKind d.prog d.w) (intKind_is _ _ k t) rfl q (.tok r (.raw _) h)
end
section
variable {d:Wd} {c:Cx} {σ:St}
structure KpX (it:Addr) (g:Gh) (h:Heap) (g':Gh) (h':Heap):Prop where
 frz:∀ a o,a≠it->g a = .frz->h.get? a=some o->g' a = .frz/\h'.get? a=some o
 prot:∀ a o,a≠it->g a = .prot->h.get? a=some o->g' a = .prot/\h'.get? a=some o
 frm:∀ a o,a≠it->g a = .frm->h.get? a=some o->g' a = .frm/\∃ sl,h'.get? a=some { o with slots:=sl }
theorem Kp.x {g g':Gh} {h h':Heap} (k:Kp g h g' h') (it:Addr):KpX it g h g' h':=⟨fun a o _=>k.frz a o,fun a o _=>k.prot a o,fun a o _=>k.frm a o⟩
theorem KpX.trans {it:Addr} {g g' g'':Gh} {h h' h'':Heap} (x:KpX it g h g' h') (y:KpX it g' h' g'' h''):KpX it g h g'' h'' :=
 ⟨fun a o n e eo=>y.frz a o n (x.frz a o n e eo).1 (x.frz a o n e eo).2,fun a o n e eo=>y.prot a o n (x.prot a o n e eo).1 (x.prot a o n e eo).2,
  fun a o n e eo=>by
   refine elAE (x.frm a o n e eo) fun e1 sl h1=>?_
   refine elAE (y.frm a _ n e1 h1) fun e2 sl2 h2=>?_
   exact⟨e2,sl2,h2⟩⟩
theorem KpX.kp {it:Addr} {g g':Gh} {h h':Heap} (x:KpX it g h g' h') (hn:h.get? it=none):Kp g h g' h' :=
 ⟨fun a o e eo=>x.frz a o (fun q=>clZ hn eo q) e eo,fun a o e eo=>x.prot a o (fun q=>clZ hn eo q) e eo,fun a o e eo=>x.frm a o (fun q=>clZ hn eo q) e eo⟩
theorem KpX.ext {it:Addr} {g:Gh} {h h':Heap} (x:Heap.ExtBut it h h'):KpX it g h g h':=⟨fun a o n e eo=>⟨e,x a o n eo⟩,fun a o n e eo=>⟨e,x a o n eo⟩,fun a o n e eo=>⟨e,o.slots,x a o n eo⟩⟩
structure KpP (p:Addr->Prop) (g:Gh) (h:Heap) (g':Gh) (h':Heap):Prop where
 frz:∀ a o,¬ p a->g a = .frz->h.get? a=some o->g' a = .frz/\h'.get? a=some o
 prot:∀ a o,¬ p a->g a = .prot->h.get? a=some o->g' a = .prot/\h'.get? a=some o
 frm:∀ a o,¬ p a->g a = .frm->h.get? a=some o->g' a = .frm/\∃ sl,h'.get? a=some { o with slots:=sl }
theorem Kp.p {g g':Gh} {h h':Heap} (k:Kp g h g' h') (p:Addr->Prop):KpP p g h g' h':=⟨fun a o _=>k.frz a o,fun a o _=>k.prot a o,fun a o _=>k.frm a o⟩
theorem KpP.trans {p:Addr->Prop} {g g' g'':Gh} {h h' h'':Heap} (x:KpP p g h g' h') (y:KpP p g' h' g'' h''):KpP p g h g'' h'' :=
 ⟨fun a o n e eo=>y.frz a o n (x.frz a o n e eo).1 (x.frz a o n e eo).2,fun a o n e eo=>y.prot a o n (x.prot a o n e eo).1 (x.prot a o n e eo).2,
  fun a o n e eo=>by
   refine elAE (x.frm a o n e eo) fun e1 sl h1=>?_
   refine elAE (y.frm a _ n e1 h1) fun e2 sl2 h2=>?_
   exact⟨e2,sl2,h2⟩⟩
theorem KpP.ext {p:Addr->Prop} {it:Addr} {g:Gh} {h h':Heap} (x:Heap.ExtBut it h h') (hp:p it):KpP p g h g h' :=
 ⟨fun a o n e eo=>⟨e,x a o (fun q=>n (q ▸ hp)) eo⟩,fun a o n e eo=>⟨e,x a o (fun q=>n (q ▸ hp)) eo⟩,fun a o n e eo=>⟨e,o.slots,x a o (fun q=>n (q ▸ hp)) eo⟩⟩
theorem Rep.itUpd {g:Gh} {A:Around} {env:Env} {s:Shared} {it:Addr} {o:Obj} {h':Heap} (r:Rep d g A env σ s) (hit:g it = .prot) (ho:s.heap.get? it=some o) (hc:∀ v,o.data ≠ .cell v) (hs:Heap.ExtBut it s.heap h') (t:Tok) :
  Rep d g A env σ { s with heap:=h',toks:=t }:=by
 have ne:∀ b (w:Ow),g b=w->w ≠ .prot->b≠it:=fun b w e hw q=>hw (by simp only[<- e,q];exact hit)
 have hk:∀ b o,g b = .frz->s.heap.get? b=some o->g b = .frz/\h'.get? b=some o:=fun b o e eo=>⟨e,hs b o (ne b _ e Ow.noConfusion) eo⟩
 have hcell:∀ b v,s.heap.IsCell b v->h'.IsCell b v:=fun b v ⟨ob,eb,hd⟩=>⟨ob,hs b ob (fun q=>by simp only[q,ho] at eb;cases eb;exact hc _ hd) eb,hd⟩
 refine ⟨sh_ch r.sh,fun b ob e=>?_,⟨?_,fun y v e1 e2=>?_,r.fr.own,fun hf y b e=>?_,fun hf y b e=>?_,r.fr.cinj,r.fr.fn,r.fr.glob,r.fr.bi,r.fr.low⟩,?_,fun b ao e=>?_,r.ok⟩
 ·obtain e1:=(r.base b ob e).1;obtain e2:=(r.base b ob e).2
  exact hk b ob e1 e2
 ·refine elEA r.fr.ns fun m hn1 hm=>?_;refine elEEEA hn1 fun on es ep eo z=>?_;try clear hn1
  exact⟨m,⟨on,es,ep,hs _ _ (ne _ _ r.fr.own Ow.noConfusion) eo,z⟩,fun y v e1 e2=>elEA (hm y v e1 e2) fun cv e3 rv=>⟨cv,e3,rv.mono hk⟩⟩
 ·refine elEEAA (r.fr.cell y v e1 e2) fun a cv e3 hcl rv=>?_
  exact⟨a,cv,e3,hcell _ _ hcl,rv.mono hk⟩
 ·refine elAAE (r.fr.ownc hf y b e) fun e1 e2 v hv=>?_
  exact⟨e1,e2,v,hcell _ _ hv⟩
 ·refine elAE (r.fr.ownp hf y b e) fun e1 v hv=>?_
  exact⟨e1,v,hcell _ _ hv⟩
 ·refine elE r.frs fun fs zz55=>?_;obtain e:=zz55.1;obtain f:=zz55.2
  refine ⟨fs,e,fun en hen=>?_⟩
  obtain e1:=(f en hen).1;refine elEEA (f en hen).2 fun L ob e2 zz0=>?_
  obtain e3:=zz0.1;obtain e4:=zz0.2.1;obtain e5:=zz0.2.2.1;obtain z:=zz0.2.2.2
  refine ⟨e1,L,ob,e2,e3,e4,hs L ob ?_ e5,z⟩
  rcases e4 with q | q
  ·exact ne L _ q Ow.noConfusion
  ·simp only[q];exact ne _ _ r.fr.own Ow.noConfusion
 ·obtain e1:=(r.ob b ao e).1;obtain e2:=(r.ob b ao e).2.1;obtain e3:=(r.ob b ao e).2.2.1;obtain e4:=(r.ob b ao e).2.2.2
  exact⟨e1,e2,e3,e4.in (fun y ob ey hy=>⟨rfl,hs y ob (by rcases hy with q | q<;>exact ne y _ q Ow.noConfusion) ey⟩) e1⟩
structure ItSpec (d:Wd) (it:Addr) (xs:List V) (side:(Addr->Option AO)->Prop) (At:Gh->Heap->Nat->Prop):Prop where
 lbl:∀ g h k,At g h k->g it = .prot/\∃ o,h.get? it=some o/\∀ v,o.data ≠ .cell v
 keepP:∀ p g h g' h' k,At g h k->¬ p it->(∀ b,p b->g b ≠ .frz)->KpP p g h g' h'->At g' h' k
 item:∀ (c:Cx) g s σ k x,Rep d g c.A c.env σ s->side σ.hp->At g s.heap k->xs[k]? = some x->∀ (Q:Option Value->Shared->Prop) (E:Value->Shared->Prop),
  (∀ v h' t,RepV g h' x v->At g h' (k+1)->Heap.ExtBut it s.heap h'->Q (some v) { s with heap:=h',toks:=t })->wpAny (model d.prog d.w) c.A (pyNext (.ref it)) Q E s
 stop:∀ (c:Cx) g s σ k,Rep d g c.A c.env σ s->c.A.handled=none->side σ.hp->At g s.heap k->xs[k]? = none->∀ (Q:Option Value->Shared->Prop) (E:Value->Shared->Prop),
  (∀ h' t,Heap.ExtBut it s.heap h'->Q none { s with heap:=h',toks:=t })->wpAny (model d.prog d.w) c.A (pyNext (.ref it)) Q E s
 self:∀ (A:Around) g (s:Shared) k,At g s.heap k->∀ (Q:Value->Shared->Prop) (E:Value->Shared->Prop),Q (.ref it) s->wpAny (model d.prog d.w) A (pyIter (.ref it)) Q E s
theorem ItSpec.keep {it:Addr} {xs:List V} {side:(Addr->Option AO)->Prop} {At:Gh->Heap->Nat->Prop} (S:ItSpec d it xs side At) (g:Gh) (h:Heap) (g':Gh) (h':Heap) (k:Nat) (a:At g h k) (kp:Kp g h g' h'):At g' h' k :=
 S.keepP (fun _=>False) g h g' h' k a id (fun _ q=>q.elim) (kp.p _)
theorem KpP.fz {p:Addr->Prop} {g g':Gh} {h h':Heap} (x:KpP p g h g' h') (hf:∀ b,p b->g b ≠ .frz):∀ a o,g a = .frz->h.get? a=some o->g' a = .frz/\h'.get? a=some o:=fun a o e eo=>x.frz a o (fun q=>hf a q e) e eo
noncomputable def PyIter (d:Wd) (c:Cx) (xv:V) (σ:St) (xs:List V) (side:(Addr->Option AO)->Prop):Prop :=
 side σ.hp/\∀ g s x,Rep d g c.A c.env σ s->RepV g s.heap xv x->∀ (Q:Value->Shared->Prop) (E:Value->Shared->Prop),
  (∀ it At g' s',ItSpec d it xs side At->Rep d g' c.A c.env σ s'->At g' s'.heap 0->Kp g s.heap g' s'.heap->s.heap.get? it=none->Q (.ref it) s')->wpAny (model d.prog d.w) c.A (pyIter x) Q E s
theorem Rep.pushIt {g:Gh} {A:Around} {env:Env} {s:Shared} (r:Rep d g A env σ s) (o:Obj):Rep d (gset g s.heap.objs.size .prot) A env σ { s with heap:=s.heap.push o }/\Kp g s.heap (gset g s.heap.objs.size .prot) (s.heap.push o):=⟨r.pushed o .prot s.toks,(r.chPush o _).kp⟩
theorem get_none_size (h:Heap):h.get? h.objs.size=none:=by
 cases q:h.get? h.objs.size with
 | none=>rfl
 | some o=>exact absurd (Heap.lt_size q) (Nat.lt_irrefl _)
theorem frz_ext {g:Gh} {h h':Heap} {it:Addr} (hit:g it = .prot) (hs:Heap.ExtBut it h h'):∀ b o,g b = .frz->h.get? b=some o->g b = .frz/\h'.get? b=some o:=fun b o e eo=>⟨e,hs b o (fun q=>by simp only[q,hit] at e;cases e) eo⟩
theorem iter_lst {vs:List V}:PyIter d c (.lst vs) σ vs fun _=>True:=⟨trivial,fun g s x r rx Q E h=>by
 refine elEEEAAA rx.l fun l items n f e z q_rx=>?_
 rw[q_rx]
 ·
  obtain hne:l≠s.heap.objs.size:=Nat.ne_of_lt (Heap.lt_size e)
  refine wpAny_pyIter_list (IsL.isList e) ?_
  obtain r':=(r.pushIt { cls:=.type "list_iterator",data:=.fields #[.ref l,.int 0 0] }).1;obtain k:=(r.pushIt { cls:=.type "list_iterator",data:=.fields #[.ref l,.int 0 0] }).2
  refine h s.heap.objs.size (fun g h k=>g s.heap.objs.size = .prot/\h.IsListIter s.heap.objs.size l k/\g l = .frz/\IsL h l items n/\RepVs g h vs items.toList) _ _ ⟨?_,?_,?_,?_,?_⟩ r' ⟨gset_self ..,⟨_,Heap.get?_push_size _ rfl,rfl,rfl⟩,(k.frz _ _ f e).1,(k.frz _ _ f e).2,z.kp k⟩ k (get_none_size _)
  ·intro g h k zr3
   obtain h1:=zr3.1;obtain hn1:=zr3.2.1
   try clear zr3
   obtain⟨o,ho,_,hd⟩:=hn1
   exact⟨h1,o,ho,fun v q=>by rw[hd] at q;cases q⟩
  ·intro p g h g' h' k zr6 hp hf kp
   obtain h1:=zr6.1;obtain hn1:=zr6.2.1;obtain h3:=zr6.2.2.1;obtain h4:=zr6.2.2.2.1;obtain h5:=zr6.2.2.2.2
   try clear zr6
   obtain⟨o,ho,z1⟩:=hn1
   exact⟨(kp.prot _ _ hp h1 ho).1,⟨o,(kp.prot _ _ hp h1 ho).2,z1⟩,(kp.fz hf _ _ h3 h4).1,(kp.fz hf _ _ h3 h4).2,h5.mono (kp.fz hf)⟩
  ·intro c g s σ k x r uu zr8 hx Q E hQ
   refine elAAAA zr8 fun h1 h2 h3 h4 h5=>?_
   try clear zr8
   refine elE (h5.get hx) fun cv zz108=>?_;obtain e1:=zz108.1;obtain rv:=zz108.2
   refine wpAny_pyNext_list_item h2 (IsL.isList h4) (by simpa using e1) fun h' hi hs=>?_
   obtain fe:=frz_ext h1 hs.extBut
   exact hQ cv h' s.toks (rv.mono fe) ⟨h1,hi,h3,(fe _ _ h3 h4).2,h5.mono fe⟩ hs.extBut
  ·intro c g s σ k r hh uu zr8 hx Q E hQ
   obtain h1:=zr8.1;obtain h2:=zr8.2.1;obtain h3:=zr8.2.2.1;obtain h4:=zr8.2.2.2.1;obtain h5:=zr8.2.2.2.2
   try clear zr8
   refine wpAny_pyNext_list_end hh h2 (IsL.isList h4) ?_ fun h' hs=>hQ h' s.toks hs
   rw[Array.getElem?_eq_none_iff,szI h5];exact List.getElem?_eq_none_iff.mp hx
  ·rintro A g s k a Q E hQ
   exact wpAny_pyIter_listiter a.2.1 hQ⟩
theorem iter_list {a:Addr} {vs:List V} (hp:σ.hp a=some (.list vs)):PyIter d c (.obj a) σ vs fun hp=>hp a=some (.list vs):=⟨hp,fun g s x r rx Q E h=>by
 rw[rx.r]
 ·
  obtain e1:=(r.ob a _ hp).1;refine elEEA (r.ob a _ hp).2.2.2 fun items n e z=>?_
  refine wpAny_pyIter_list (IsL.isList e) ?_
  obtain r':=(r.pushIt { cls:=.type "list_iterator",data:=.fields #[.ref a,.int 0 0] }).1;obtain k:=(r.pushIt { cls:=.type "list_iterator",data:=.fields #[.ref a,.int 0 0] }).2
  refine h s.heap.objs.size (fun g h k=>g s.heap.objs.size = .prot/\h.IsListIter s.heap.objs.size a k) _ _ ⟨?_,?_,?_,?_,?_⟩ r' ⟨gset_self ..,⟨_,Heap.get?_push_size _ rfl,rfl,rfl⟩⟩ k (get_none_size _)
  ·intro g h k zr3
   obtain h1:=zr3.1;obtain hn1:=zr3.2
   try clear zr3
   obtain⟨o,ho,_,hd⟩:=hn1
   exact⟨h1,o,ho,fun v q=>by simp only[hd] at q;cases q⟩
  ·intro p g h g' h' k zr6 hp hf kp
   obtain h1:=zr6.1;obtain hn1:=zr6.2
   try clear zr6
   obtain⟨o,ho,z1⟩:=hn1
   exact⟨(kp.prot _ _ hp h1 ho).1,⟨o,(kp.prot _ _ hp h1 ho).2,z1⟩⟩
  ·intro c g s σ k x r hp zr8 hx Q E hQ
   obtain h1:=zr8.1;obtain h2:=zr8.2
   try clear zr8
   refine elEEA (r.ob a _ hp).2.2.2 fun items n e z=>?_
   refine elE (z.get hx) fun cv zz140=>?_;obtain e1:=zz140.1;obtain rv:=zz140.2
   refine wpAny_pyNext_list_item h2 (IsL.isList e) (by simpa using e1) fun h' hi hs=>?_
   exact hQ cv h' s.toks (rv.mono (frz_ext h1 hs.extBut)) ⟨h1,hi⟩ hs.extBut
  ·intro c g s σ k r hh hp zr8 hx Q E hQ
   obtain h1:=zr8.1;obtain h2:=zr8.2
   try clear zr8
   refine elEEA (r.ob a _ hp).2.2.2 fun items n e z=>?_
   refine wpAny_pyNext_list_end hh h2 (IsL.isList e) ?_ fun h' hs=>hQ h' s.toks hs
   rw[Array.getElem?_eq_none_iff,szI z];exact List.getElem?_eq_none_iff.mp hx
  ·rintro A g s k a Q E hQ
   exact wpAny_pyIter_listiter a.2 hQ⟩
theorem iter_tup {vs:List V}:PyIter d c (.tup vs) σ vs fun _=>True:=⟨trivial,fun g s x r rx Q E h=>by
 refine elEEEAAA rx.t fun l items n f e z q_rx=>?_
 rw[q_rx]
 ·
  have ht:∀ {h:Heap},IsT h l items n->h.IsTuple l items:=fun e=>⟨_,e,rfl,n,rfl⟩
  refine wpAny_pyIter_tuple (ht e) ?_
  obtain r':=(r.pushIt { cls:=.type "tuple_iterator",data:=.fields #[.ref l,.int 0 0] }).1;obtain k:=(r.pushIt { cls:=.type "tuple_iterator",data:=.fields #[.ref l,.int 0 0] }).2
  refine h s.heap.objs.size (fun g h k=>g s.heap.objs.size = .prot/\h.IsTupleIter s.heap.objs.size l k/\g l = .frz/\IsT h l items n/\RepVs g h vs items.toList) _ _ ⟨?_,?_,?_,?_,?_⟩ r' ⟨gset_self ..,⟨_,Heap.get?_push_size _ rfl,rfl,rfl⟩,(k.frz _ _ f e).1,(k.frz _ _ f e).2,z.kp k⟩ k (get_none_size _)
  ·intro g h k zr3
   obtain h1:=zr3.1;obtain hn1:=zr3.2.1
   try clear zr3
   obtain⟨o,ho,_,hd⟩:=hn1
   exact⟨h1,o,ho,fun v q=>by rw[hd] at q;cases q⟩
  ·intro p g h g' h' k zr6 hp hf kp
   obtain h1:=zr6.1;obtain hn1:=zr6.2.1;obtain h3:=zr6.2.2.1;obtain h4:=zr6.2.2.2.1;obtain h5:=zr6.2.2.2.2
   try clear zr6
   obtain⟨o,ho,z1⟩:=hn1
   exact⟨(kp.prot _ _ hp h1 ho).1,⟨o,(kp.prot _ _ hp h1 ho).2,z1⟩,(kp.fz hf _ _ h3 h4).1,(kp.fz hf _ _ h3 h4).2,h5.mono (kp.fz hf)⟩
  ·intro c g s σ k x r uu zr8 hx Q E hQ
   obtain h1:=zr8.1;obtain h2:=zr8.2.1;obtain h3:=zr8.2.2.1;obtain h4:=zr8.2.2.2.1;obtain h5:=zr8.2.2.2.2
   try clear zr8
   refine elE (h5.get hx) fun cv zz171=>?_;obtain e1:=zz171.1;obtain rv:=zz171.2
   refine wpAny_pyNext_tuple_item h2 (ht h4) (by simpa using e1) fun h' hi hs=>?_
   obtain fe:=frz_ext h1 hs.extBut
   exact hQ cv h' s.toks (rv.mono fe) ⟨h1,hi,h3,(fe _ _ h3 h4).2,h5.mono fe⟩ hs.extBut
  ·intro c g s σ k r hh uu zr8 hx Q E hQ
   obtain h1:=zr8.1;obtain h2:=zr8.2.1;obtain h3:=zr8.2.2.1;obtain h4:=zr8.2.2.2.1;obtain h5:=zr8.2.2.2.2
   try clear zr8
   refine wpAny_pyNext_tuple_end hh h2 (ht h4) ?_ fun h' hs=>hQ h' s.toks hs
   simp only[Array.getElem?_eq_none_iff,szI h5];exact List.getElem?_eq_none_iff.mp hx
  ·rintro A g s k a Q E hQ
   exact wpAny_pyIter_tupleiter a.2.1 hQ⟩
noncomputable def rInts (n:Nat):List V:=(List.range n).map fun i:Nat=>V.int (i:Int)
theorem iter_rng {n:Nat} (hn:n<=1000):PyIter d c (.rng n) σ (rInts n) fun _=>True:=⟨trivial,fun g s x r rx Q E h=>by
 cases rx with | @rng l _ t u v f e =>
  have hsz:Builtin.Range.rangeSize 0 (n:Int) 1=n:=by simp only[rangeSize_one];split<;>omega
  refine wpAny_pyIter_range e ?_ ?_
  ·delta Builtin.Range.small;simp only[hsz];delta Builtin.Range.rangeFitsLong;simp;exact Y86 hn
  rw[hsz]
  obtain r':=(r.pushIt { cls:=.type "range_iterator",data:=.fields #[rawInt 0,rawInt n,rawInt 1] }).1;obtain k:=(r.pushIt { cls:=.type "range_iterator",data:=.fields #[rawInt 0,rawInt n,rawInt 1] }).2
  refine h s.heap.objs.size (fun g h k=>g s.heap.objs.size = .prot/\IsRangeIter h s.heap.objs.size k ((n:Int) - k) 1) _ _ ⟨?_,?_,?_,?_,?_⟩ r' ⟨gset_self ..,by simpa using Heap.get?_push_size _ rfl⟩ k (get_none_size _)
  ·intro g h k zr3
   obtain h1:=zr3.1;obtain h2:=zr3.2
   try clear zr3
   exact⟨h1,_,h2,fun v q=>by cases q⟩
  ·intro p g h g' h' k zr6 hp hf kp
   obtain h1:=zr6.1;obtain h2:=zr6.2
   try clear zr6
   exact⟨(kp.prot _ _ hp h1 h2).1,(kp.prot _ _ hp h1 h2).2⟩
  ·intro c g s σ k x r uu zr8 hx Q E hQ
   obtain h1:=zr8.1;obtain h2:=zr8.2
   try clear zr8
   have hk:k < n:=by
    obtain this:=(List.getElem?_eq_some_iff.mp hx).1
    simpa [rInts] using this
   obtain hxv:x = .int k:=by
    unfold rInts at hx
    simp only[List.getElem?_map,List.getElem?_range hk] at hx
    simpa using hx.symm
   subst hxv
   refine wpAny_pyNext_range_item h2 (by exact Y185 hk) fun h' hi hs=>?_
   exact hQ _ h' (s.toks+1) (.int _ _) ⟨h1,by rw[show (n:Int) - ((k+1:Nat):Int)=(n:Int) - k - 1 by omega,show (((k+1:Nat):Int))=(k:Int)+1 by omega];exact hi⟩ hs.extBut
  ·intro c g s σ k r hh uu zr8 hx Q E hQ
   obtain h1:=zr8.1;obtain h2:=zr8.2
   try clear zr8
   obtain hk:n<=k:=by
    obtain this:=List.getElem?_eq_none_iff.mp hx
    simpa [rInts] using this
   exact wpAny_pyNext_range_end hh h2 (by exact Y171 hk) fun h' hs=>hQ h' s.toks hs
  ·rintro A g s k a Q E hQ
   exact wpAny_pyIter_rangeiter a.2 hQ⟩
theorem iter_dictI {a:Addr} {kvs:List (Int×V)} {ep:Nat} (hp:σ.hp a=some (.dictI kvs ep)):PyIter d c (.obj a) σ (kvs.map fun kv=>V.int kv.1) fun hp=>hp a=some (.dictI kvs ep):=⟨hp,fun g s x r rx Q E h=>by
 rw[rx.r]
 ·
  refine elEA (r.ob a _ hp).2.2.2 fun ys D z=>?_
  refine wpAny_pyIter_dict (r.notSys hp) D ?_
  obtain r':=(r.pushIt { cls:=.type "dict_keyiterator",data:=.fields #[.ref a,.int 0 0,.int ys.length 0,.int ep 0] }).1;obtain k:=(r.pushIt { cls:=.type "dict_keyiterator",data:=.fields #[.ref a,.int 0 0,.int ys.length 0,.int ep 0] }).2
  refine h s.heap.objs.size (fun g h k=>g s.heap.objs.size = .prot/\h.IsKeyIter s.heap.objs.size a k kvs.length ep) _ _ ⟨?_,?_,?_,?_,?_⟩ r' ⟨gset_self ..,⟨_,Heap.get?_push_size _ rfl,rfl,by simp only[z.length];rfl⟩⟩ k (get_none_size _)
  ·intro g h k zr3
   obtain h1:=zr3.1;obtain hn1:=zr3.2
   try clear zr3
   obtain⟨o,ho,_,hd⟩:=hn1
   exact⟨h1,o,ho,fun v q=>by rw[hd] at q;cases q⟩
  ·intro p g h g' h' k zr6 hp hf kp
   obtain h1:=zr6.1;obtain hn1:=zr6.2
   try clear zr6
   obtain⟨o,ho,z1⟩:=hn1
   exact⟨(kp.prot _ _ hp h1 ho).1,⟨o,(kp.prot _ _ hp h1 ho).2,z1⟩⟩
  ·intro c g s σ k x r hp zr8 hx Q E hQ
   refine elA zr8 fun h1 h2=>?_
   try clear zr8
   refine elEA (r.ob a _ hp).2.2.2 fun ys D z=>?_
   simp only[z.length] at h2
   have hk:k < ys.length:=by
    obtain this:=(List.getElem?_eq_some_iff.mp hx).1
    simp only[List.length_map,z.length] at this;exact this
   obtain hy:ys[k]? = some (ys[k].1,ys[k].2):=List.getElem?_eq_getElem hk
   obtain hxv:x = .int ys[k].1:=by
    obtain e1:(kvs.map (·.1))[k]? = some ys[k].1:=by simp only[z.keys,List.getElem?_map,hy];rfl
    simp only[List.getElem?_map] at hx e1
    refine elE (Option.map_eq_some_iff.mp hx) fun kv zz251=>?_;obtain e2:=zz251.1;obtain e3:=zz251.2
    simp only[e2] at e1
    simp only[Option.map_some,Option.some.injEq] at e1
    simp only[<- e3,e1]
   subst hxv
   refine wpAny_pyNext_dict_item h2 D hy fun key h' hkey hi hs=>?_
   obtain⟨t,rfl⟩:∃ t,key = .int ys[k].1 t:=by
    have:Value.isInt ys[k].1 key=true:=hkey
    cases key<;>simp[Value.isInt] at this
    rename_i i t;exact⟨t,by rw[this]⟩
   exact hQ _ h' s.toks (.int _ _) ⟨h1,by simp only[z.length];exact hi⟩ hs.extBut
  ·intro c g s σ k r hh hp zr8 hx Q E hQ
   refine elA zr8 fun h1 h2=>?_
   try clear zr8
   refine elEA (r.ob a _ hp).2.2.2 fun ys D z=>?_
   simp only[z.length] at h2
   refine wpAny_pyNext_dict_end hh h2 D ?_ fun h' hs=>hQ h' s.toks hs
   obtain this:=List.getElem?_eq_none_iff.mp hx
   simp only[List.length_map,z.length] at this
   exact List.getElem?_eq_none_iff.mpr this
  ·rintro A g s k a Q E hQ
   exact wpAny_pyIter_keyiter a.2 hQ⟩
noncomputable def ForRun (d:Wd) (c:Cx) (target:Expr) (body orelse:List Stmt) (side:(Addr->Option AO)->Prop) (K:Fl->St->Prop):List V->St->Prop
 | [],σ=>WB d c orelse σ K
 | x::xs,σ=>Asg d c target x σ fun _ σ1=>WB d c body σ1 (FK side K (ForRun d c target body orelse side K xs))
noncomputable def ForK (d:Wd) (c:Cx) (target:Expr) (body orelse:List Stmt) (K:Fl->St->Prop) (xv:V) (σ:St):Prop:=∃ xs side,PyIter d c xv σ xs side/\ForRun d c target body orelse side K xs σ
noncomputable def PyIterX (d:Wd) (c:Cx) (xv:V) (σ:St) (XS:List V->Prop) (side:(Addr->Option AO)->Prop) (CC:Addr->(Gh->Heap->Nat->Prop)->Prop):Prop :=
 side σ.hp/\∀ g s x,Rep d g c.A c.env σ s->RepV g s.heap xv x->∀ (Q:Value->Shared->Prop) (E:Value->Shared->Prop),
  (∀ xs,XS xs->∀ it At g' s',ItSpec d it xs side At->CC it At->Rep d g' c.A c.env σ s'->At g' s'.heap 0->Kp g s.heap g' s'.heap->s.heap.get? it=none->Q (.ref it) s')->wpAny (model d.prog d.w) c.A (pyIter x) Q E s
theorem WS_ForX {CC:Addr->(Gh->Heap->Nat->Prop)->Prop} {target iter:Expr} {body orelse:List Stmt} {pos:Pos} {K:Fl->St->Prop} (hX:∀ x σ,¬ c.X x σ) (hh:c.A.handled=none)
  (h:W d c iter σ fun xv σ1=>∃ XS side,PyIterX d c xv σ1 XS side CC/\∀ xs,XS xs->ForRun d c target body orelse side K xs σ1)
  (hgo:∀ it At,CC it At->∀ g s k v (E:Value->Shared->Prop) (Q:Unit->Shared->Prop),At g s.heap k->Q () s->wpAny (model d.prog d.w) c.A (letOwnedTupleGo target (.ref it) v) Q E s)
  (hs:∀ x,foldedSetIterable iter c.env x=pure x:=by intro _;rfl):WS d c (.For target iter body orelse pos) σ K:=fun g s r=>by
 refine wpAny_For (Ev.b (h g s r) fun x J6 E1 xv σ1 h1 h2 h3 zk=>elEEA zk fun XS side hm2 hrun'=>elA hm2 fun hside hit=>?_) hs
 refine hit E1 J6 x h1 h3 _ _ fun xs hXS it At E2 J7 S hcls I8 A8 G8 hn=>?_
 obtain hrun:=hrun' xs hXS
 refine codeAny_forLoop_any (I:=fun n s=>∃ g σ k,n=xs.length - k/\k<=xs.length/\Rep d g c.A c.env σ s/\At g s.heap k/\side σ.hp/\ForRun d c target body orelse side K (xs.drop k) σ/\KpX it E2 J7.heap g s.heap) ?_ xs.length
  ⟨E2,σ1,0,Y69,by walk_at "o",I8,A8,hside,hrun,(Kp.refl ..).x it⟩
 intro n s zr2
 refine elEEEAAAA zr2 fun E3 σ3 k hn' hk I9 A9 zz0=>?_
 obtain side3:=zz0.1;obtain run3:=zz0.2.1;obtain kx:=zz0.2.2
 try clear zr2
 refine elAEA (S.lbl _ _ _ A9) fun l1 o l2 l3=>?_
 have base:Kp E1 J6.heap E2 J7.heap:=G8
 by_cases hlt:k < xs.length
 ·obtain hx:xs[k]? = some xs[k]:=List.getElem?_eq_getElem hlt
  simp only[List.drop_eq_getElem_cons hlt] at run3
  refine S.item c E3 s σ3 k xs[k] I9 side3 A9 hx _ _ fun v h' t rv B0 hext=>?_
  obtain J0:=I9.itUpd l1 l2 l3 hext t
  refine hgo it At hcls _ _ _ _ _ _ B0 ?_
  refine wpAny_mono (run3 E3 _ v J0 rv) (fun uu K0 zz=>zz.elim fun g5 uu σ5 J1 H8 uu hb=>?_) (fun uu uu zz=>zz.elim fun uu uu uu uu uu uu q=>(hX _ _ q).elim)
  refine wpAny_mono (hb g5 K0 J1) (fun f s6 zz=>zz.elim fun g6 f' σ6 J2 H9 rf hf=>?_) (fun uu uu zz=>zz.elim fun uu uu uu uu uu uu q=>(hX _ _ q).elim)
  obtain a6:=S.keep _ _ _ _ _ B0 (H8.trans H9)
  have kx6:KpX it E2 J7.heap g6 s6.heap:=(kx.trans (KpX.ext hext)).trans ((H8.trans H9).x it)
  have full:Kp E1 J6.heap g6 s6.heap:=(((base.x it).trans kx6)).kp hn
  cases rf with
  | next=>exact⟨xs.length - (k+1),dn_lt hn' hlt,g6,σ6,k+1,rfl,hlt,J2,a6,hf.1,hf.2,kx6⟩
  | cont=>exact⟨xs.length - (k+1),dn_lt hn' hlt,g6,σ6,k+1,rfl,hlt,J2,a6,hf.1,hf.2,kx6⟩
  | brk=>exact⟨g6,_,σ6,J2,h2.trans full,.next,hf⟩
  | ret q=>exact⟨g6,_,σ6,J2,h2.trans full,.ret q,hf⟩
 ·obtain hke:k=xs.length:=Y180 hk hlt
  subst hke
  simp only[List.drop_length] at run3
  refine S.stop c E3 s σ3 _ I9 hh side3 A9 (List.getElem?_eq_none_iff.mpr (Nat.le_refl _)) _ _ fun h' t hext=>?_
  obtain J0:=I9.itUpd l1 l2 l3 hext t
  obtain full:Kp E1 J6.heap E3 h':=((base.x it).trans (kx.trans (KpX.ext hext))).kp hn
  refine wpAny_mono (run3 E3 _ J0) (fun f s6 zz=>zz.elim fun g6 f' σ6 J2 H9 rf hf=>⟨g6,f',σ6,J2,h2.trans (full.trans H9),rf,hf⟩) (fun uu uu zz=>zz.elim fun uu uu uu uu uu uu q=>(hX _ _ q).elim)
theorem WS_For {target iter:Expr} {body orelse:List Stmt} {pos:Pos} {K:Fl->St->Prop} (hX:∀ x σ,¬ c.X x σ) (hh:c.A.handled=none)
  (h:W d c iter σ (ForK d c target body orelse K))
  (hs:∀ x,foldedSetIterable iter c.env x=pure x:=by intro _;rfl) (ht:∀ it v,letOwnedTupleGo target it v=pure ():=by intro _ _;rfl):WS d c (.For target iter body orelse pos) σ K :=
 WS_ForX (CC:=fun _ _=>True) hX hh (Ev.mono h fun xv σ1 zk=>elEEA zk fun xs side hm run=>elA hm fun h1 h2=>⟨(· = xs),side,⟨h1,fun g s x r rx Q E q=>h2 g s x r rx Q E fun it At g' s' S=>q xs rfl it At g' s' S trivial⟩,fun ys e=>e ▸ run⟩)
  (fun it At _ g s k v E Q _ q=>by rw[ht];exact wpAny_pure q) hs
end
section
variable {d:Wd} {c:Cx} {σ:St}
noncomputable abbrev SiK2 (d:Wd) (c:Cx) (o:V) (v:V) (K:Unit->St->Prop) (i:V) (σ:St):Prop:=SetI d c o i v σ K
noncomputable abbrev SiK (d:Wd) (c:Cx) (ie:Expr) (v:V) (K:Unit->St->Prop) (o:V) (σ:St):Prop:=W d c ie σ (SiK2 d c o v K)
noncomputable abbrev SaK (d:Wd) (c:Cx) (name:Str) (v:V) (K:Unit->St->Prop) (o:V) (σ:St):Prop:=SetA d c o name v σ K
theorem A_sub {o i:Expr} {pos:Pos} {v:V} {K:Unit->St->Prop} (h:W d c o σ (SiK d c i v K)):Asg d c (.Subscript o i pos) v σ K:=fun g s y r ry=>by
 rw[assign_Subscript]
 refine wpAny_bind (wpAny_holding (wpAny_mono (h g s r) (fun ox J6 zz=>zz.elim fun E1 ov σ1 h1 h2 h3 h4=>?_) fun _ _ z=>z))
 refine wpAny_bind (wpAny_holding (wpAny_mono (h4 E1 J6 h1) (fun ix J7 zz=>zz.elim fun E2 iv L8 k1 k2 k3 k4=>?_) fun _ _ z=>z.kp d h2))
 refine wpAny_bind (wpAny_standAt (wpAny_bind (wpAny_holding (wpAny_mono (k4 E2 J7 _ _ y k1 (h3.kp k2) k3 (ry.kp (h2.trans k2))) (fun u J8 zz=>zz.elim fun E3 b σ3 l1 l2 l3 l4=>?_) fun _ _ z=>z.kp d (h2.trans k2)))))
 exact wpAny_release ⟨E3,b,σ3,l1,h2.trans (k2.trans l2),rfl,l4⟩
theorem A_att {o:Expr} {attr:Str} {pos:Pos} {v:V} {K:Unit->St->Prop} (h:W d c o σ (SaK d c attr v K)):Asg d c (.Attribute o attr pos) v σ K:=fun g s y r ry=>by
 rw[assign_Attribute]
 refine wpAny_bind (wpAny_holding (wpAny_mono (h g s r) (fun ox J6 zz=>zz.elim fun E1 ov σ1 h1 h2 h3 h4=>?_) fun _ _ z=>z))
 refine wpAny_bind (wpAny_standAt (wpAny_bind (wpAny_holding (wpAny_mono (h4 E1 J6 _ y h1 h3 (ry.kp h2)) (fun u J8 zz=>zz.elim fun E3 b σ3 l1 l2 l3 l4=>?_) fun _ _ z=>z.kp d h2))))
 exact wpAny_release ⟨E3,b,σ3,l1,h2.trans l2,rfl,l4⟩
theorem W_NamedExpr {target value:Expr} {pos:Pos} {K:V->St->Prop} (h:W d c value σ fun v σ1=>Asg d c target v σ1 fun _ L8=>K v L8):W d c (.NamedExpr target value pos) σ K:=fun g s r =>
 wpAny_NamedExpr (wpAny_mono (h g s r) (fun x J6 zz=>zz.elim fun E1 v σ1 h1 h2 h3 h4=>wpAny_mono (h4 E1 J6 x h1 h3) (fun uu J7 zz=>zz.elim fun E2 b L8 k1 k2 k3 k4=>⟨E2,v,L8,k1,h2.trans k2,h3.kp k2,k4⟩) fun _ _ z=>z.kp d h2) fun _ _ z=>z)
noncomputable abbrev AtK (d:Wd) (c:Cx) (name:Str) (K:V->St->Prop) (ov:V) (σ:St):Prop:=Att d c ov name true σ K
theorem W_Attribute {o:Expr} {attr:Str} {pos:Pos} {K:V->St->Prop} (h:W d c o σ (AtK d c attr K)) (he:eval (.Attribute o attr pos) c.env=(do
   let o' <- eval o c.env
   standAt pos.atName
   let r <- holding [o'] (getAttr o' attr true)
   letTemporaryGo o o' r
   pure r):=by with_unfolding_all rfl):W d c (.Attribute o attr pos) σ K:=fun g s r =>
 Attribute_any_ (wpAny_mono (h g s r) (fun x J6 zz=>zz.elim fun E1 v σ1 h1 h2 h3 h4=>Ev.t (h4 E1 J6 x h1 h3) h2) fun _ _ z=>z) he
noncomputable abbrev GetI (d:Wd) (c:Cx) (o i:V) (σ:St) (K:V->St->Prop):Prop:=Ev2 d c RepV o i getItem σ K
theorem WS_AugSub {o i value:Expr} {tpos pos:Pos} {op:Operator} {K:Fl->St->Prop}
  (h:W d c o σ fun ov σ1=>W d c i σ1 fun iv L8=>GetI d c ov iv L8 fun old σ3=>W d c value σ3 fun v σ4=>Inp d c op old v σ4 fun new σ5=>SetI d c ov iv new σ5 fun _ σ6=>K .next σ6)
  (hi:∀ ov iv new,augStore i ov iv new=(do holding [new,ov,iv] (setItem ov iv new);release [new,ov,iv] [];pure .next):=by intros;rfl):WS d c (.AugAssign (.Subscript o i tpos) op value pos) σ K:=fun g s r =>
 wpAny_AugAssign_SubscriptAny (Ev.b (h g s r) fun ox J6 E1 ov σ1 h1 h2 h3 h4=>Ev.bk (h4 E1 J6 h1) h2 fun ix J7 E2 iv L8 k1 k2 k3 k4=>Ev.bk (k4 E2 J7 _ _ k1 (h3.kp k2) k3) (h2.trans k2) fun old J8 E3 uu σ3 l1 l2 l3 l4 =>
  Ev.bk (l4 E3 J8 l1) (h2.trans (k2.trans l2)) fun vx J9 E4 uu σ4 m1 m2 m3 m4=>Ev.bk (m4 E4 J9 _ _ m1 (l3.kp m2) m3) (h2.trans (k2.trans (l2.trans m2))) fun nw K0 g5 uu σ5 n1 n2 n3 n4 =>
   Ev.bk (n4 g5 K0 _ _ _ n1 (h3.kp (k2.trans (l2.trans (m2.trans n2)))) (k3.kp (l2.trans (m2.trans n2))) n3) (h2.trans (k2.trans (l2.trans (m2.trans n2)))) fun uu s6 g6 uu σ6 o1 o2 o3 o4=>⟨g6,_,σ6,o1,h2.trans (k2.trans (l2.trans (m2.trans (n2.trans o2)))),.next,o4⟩) hi
theorem WS_AugAtt {o value:Expr} {attr:Str} {tpos pos:Pos} {op:Operator} {K:Fl->St->Prop}
  (h:W d c o σ fun ov σ1=>Att d c ov attr true σ1 fun old σ3=>W d c value σ3 fun v σ4=>Inp d c op old v σ4 fun new σ5=>SetA d c ov attr new σ5 fun _ σ6=>K .next σ6):WS d c (.AugAssign (.Attribute o attr tpos) op value pos) σ K:=fun g s r =>
 wpAny_AugAssign_AttributeAny (wpAny_mono (h g s r) (fun ox J6 zz=>zz.elim fun E1 ov σ1 h1 h2 h3 h4=>wpAny_mono (h4 E1 J6 _ h1 h3) (fun old J8 zz=>zz.elim fun E3 uu σ3 l1 l2 l3 l4=>wpAny_mono (l4 E3 J8 l1) (fun vx J9 zz=>zz.elim fun E4 uu σ4 m1 m2 m3 m4 =>
   wpAny_mono (m4 E4 J9 _ _ m1 (l3.kp m2) m3) (fun nw K0 zz=>zz.elim fun g5 uu σ5 n1 n2 n3 n4 =>
    wpAny_mono (n4 g5 K0 _ _ n1 (h3.kp (l2.trans (m2.trans n2))) n3) (fun uu s6 zz=>zz.elim fun g6 uu σ6 o1 o2 o3 o4=>⟨g6,_,σ6,o1,h2.trans (l2.trans (m2.trans (n2.trans o2))),.next,o4⟩)
     fun _ _ z=>z.kp d (h2.trans (l2.trans (m2.trans n2))))
    fun _ _ z=>z.kp d (h2.trans (l2.trans m2))) fun _ _ z=>z.kp d (h2.trans l2)) fun _ _ z=>z.kp d h2) fun _ _ z=>z)
theorem get_list {a:Addr} {vs:List V} {k:Int} {v:V} {K:V->St->Prop} (hp:σ.hp a=some (.list vs)) (h0:0<=k) (hhi:k < 2 ^ 63) (hv:vs[k.toNat]? = some v) (h:K v σ):GetI d c (.obj a) (.int k) σ K:=iv_ri fun g s r t=>by
  refine elAAAEEA (r.ob a _ hp) fun uu uu uu items n e z=>?_
  refine elEA (z.get hv) fun cv e1 r1=>?_
  exact wpAny_getItem_list (IsL.isList e) h0 hhi (by simpa using e1) (.here r r1 h)
theorem RepVs.set {g:Gh} {h:Heap} {v:V} {y:Value} (ry:RepV g h v y) {vs:List V} {cs:List Value} (r:RepVs g h vs cs) (i:Nat):RepVs g h (vs.set i v) (cs.set i y) :=
 r.ind (P:=fun vs cs=>∀ i,RepVs g h (vs.set i v) (cs.set i y)) (fun _=>.nil) (fun a b ih i=>match i with
  | 0=>.cons ry b
  | i+1=>.cons a (ih i)) i
theorem set_list {a:Addr} {vs:List V} {k:Int} {v:V} {K:Unit->St->Prop} (hp:σ.hp a=some (.list vs)) (h0:0<=k) (hk:k < vs.length) (hz:vs.length<=1000) (h:K () (σ.upd a (.list (vs.set k.toNat v)))):SetI d c (.obj a) (.int k) v σ K:=iv_riv fun g s r t z rz=>by
  refine elAAAEEA (r.ob a _ hp) fun uu uu uu items n e q=>?_
  refine ki_setAt (n:=n) e h0 (Y14 hk hz) (by rw[szI q];exact hk) ?_
  refine elE (upd_list (fun x=>x.setIfInBounds k.toNat z) e) fun n' e'=>?_
  refine elA (r.listUpd hp (Heap.SameBut.update ..) s.toks e' (ws:=vs.set k.toNat v) (by simpa using RepVs.set rz q k.toNat)) fun r' k'=>?_
  exact⟨g,(),_,r',k',rfl,h⟩
theorem draw_it {it:Addr} {xs:List V} {side:(Addr->Option AO)->Prop} {At:Gh->Heap->Nat->Prop} (S:ItSpec d it xs side At) {g:Gh}:∀ (n k:Nat) (s:Shared) (Q:List Value->Shared->Prop) (E:Value->Shared->Prop),k+n<=xs.length->Rep d g c.A c.env σ s->side σ.hp->At g s.heap k ->
  (∀ vs h' t,RepVs g h' ((xs.drop k).take n) vs->At g h' (k+n)->Heap.ExtBut it s.heap h'->Q vs { s with heap:=h',toks:=t })->wpAny (model d.prog d.w) c.A (draw (.ref it) n) Q E s
 | 0,k,s,Q,E,_,r,hs,ha,h=>by
  show wpAny _ _ (pure []) Q E s
  exact wpAny_pure (h [] s.heap s.toks (by rw[List.take_zero];exact .nil) ha (fun _ _ _ e=>e))
 | n+1,k,s,Q,E,hk,r,hs,ha,h=>by
  have hlt:k < xs.length:=Y213 hk
  refine elAEA (S.lbl _ _ _ ha) fun l1 o l2 l3=>?_
  show wpAny _ _ (pyNext (.ref it) >>= _) Q E s
  refine wpAny_bind (S.item c g s σ k xs[k] r hs ha (List.getElem?_eq_getElem hlt) _ _ fun v E9 K1 rv A7 L5=>?_)
  have I7:=r.itUpd l1 l2 l3 L5 K1
  refine wpAny_bind (wpAny_holding (draw_it S n (k+1) _ _ _ (Y208 hk) I7 hs A7 fun vs G0 K3 rvs A8 L6=>wpAny_pure ?_))
  refine h (v::vs) G0 K3 ?_ (by rw[show k+(n+1)=k+1+n by exact Y125];exact A8) (L5.trans L6)
  rw[List.drop_eq_getElem_cons hlt,List.take_succ_cons]
  exact .cons (rv.mono (frz_ext l1 L6)) rvs
theorem unpack_it {xs:List V} {xv:V} {side:(Addr->Option AO)->Prop} {K:List V->St->Prop} (hh:c.A.handled=none) (hit:PyIter d c xv σ xs side) (hnot:∀ g s x,Rep d g c.A c.env σ s->RepV g s.heap xv x->∀ (Q:Bool->Shared->Prop) (E:Value->Shared->Prop),Q false s->wpAny (model d.prog d.w) c.A (notIterableAtAll x) Q E s)
  (h:K xs σ):Ev1 d c RepVs xv (fun x=>unpackItems x xs.length none) σ K:=fun g s x r rx=>by
 unfold unpackItems
 refine wpAny_bind (hnot g s x r rx _ _ ?_)
 refine wpAny_bind (wpAny_holding (hit.2 g s x r rx _ _ fun it At g' s' S r' a' k' hn=>?_))
 refine elAEA (S.lbl _ _ _ a') fun l1 o l2 l3=>?_
 refine wpAny_bind (wpAny_holding (draw_it S xs.length 0 s' _ _ Y33 r' hit.1 a' fun vs E9 K1 rvs A7 L5=>?_))
 rw[List.drop_zero,List.take_length] at rvs
 rw[if_neg (by rw[<- rvs.length];exact Y111)]
 have I7:=r'.itUpd l1 l2 l3 L5 K1
 rw[Nat.zero_add] at A7
 refine elAEA (S.lbl _ _ _ A7) fun m1 o' m2 m3=>?_
 refine wpAny_bind (wpAny_holding (S.stop c g' _ σ _ I7 hh hit.1 A7 (List.getElem?_eq_none_iff.mpr (Nat.le_refl _)) _ _ fun G0 K3 L6=>?_))
 have I8:=I7.itUpd m1 m2 m3 L6 K3
 have kf:Kp g s.heap g' G0:=((k'.x it).trans ((KpX.ext L5).trans (KpX.ext L6))).kp hn
 exact wpAny_pure ⟨g',xs,σ,I8,kf,rvs.mono (frz_ext l1 L6),h⟩
theorem notIter_tup {vs:List V} (g:Gh) (s:Shared) (x:Value) (r:Rep d g c.A c.env σ s) (rx:RepV g s.heap (.tup vs) x) (Q:Bool->Shared->Prop) (E:Value->Shared->Prop) (h:Q false s):wpAny (model d.prog d.w) c.A (notIterableAtAll x) Q E s:=by
 refine elEEEAAA rx.t fun _ _ _ f e z q_rx=>?_
 rw[q_rx]
 ·
  unfold notIterableAtAll
  exact wpAny_bind (wpAny_specialOf (T:="tuple") ⟨_,e,rfl⟩ F.slot_tuple_iter.lookup (wpAny_pure h))
theorem notIter_lst {vs:List V} (g:Gh) (s:Shared) (x:Value) (r:Rep d g c.A c.env σ s) (rx:RepV g s.heap (.lst vs) x) (Q:Bool->Shared->Prop) (E:Value->Shared->Prop) (h:Q false s):wpAny (model d.prog d.w) c.A (notIterableAtAll x) Q E s:=by
 refine elEEEAAA rx.l fun _ _ _ f e z q_rx=>?_
 rw[q_rx]
 ·
  unfold notIterableAtAll
  exact wpAny_bind (wpAny_specialOf (T:="list") ⟨_,e,rfl⟩ F.slot_list_iter.lookup (wpAny_pure h))
theorem A_two {K1 K3:Expr} {x1} {pos:Pos} {u v xv:V} {side:(Addr->Option AO)->Prop} {K:Unit->St->Prop} (hp:[K1,K3].all plainTarget=true) (hu:Ev1 d c RepVs xv (fun x=>unpackItems x 2 none) σ fun vs σ1=>vs=[u,v]/\Asg d c K1 u σ1 fun _ L8=>Asg d c K3 v L8 K) :
  Asg d c (.Tuple [K1,K3] x1 pos) xv σ K:=fun g s y r ry=>by
 rw[assign_Tuple]
 refine wpAny_bind (wpAny_standAt ?_)
 simp only[List.all_cons,List.all_nil,Bool.and_true,Bool.and_eq_true] at hp
 have he:assignEach [K1,K3] c.env=[(false,assign K1 c.env),(false,assign K3 c.env)]:=by rw[assignEach_plain K1 [K3] c.env hp.1,assignEach_plain K3 [] c.env hp.2];rfl
 rw[he]
 unfold unpack
 refine wpAny_bind (wpAny_holding (wpAny_mono (hu g s y r ry) (fun cs J6 zz=>zz.elim fun E1 vs σ1 h1 h2 h3 zk=>elA zk fun e h4=>?_) fun _ _ z=>z))
 subst e
 cases h3 with | cons ra h3=>cases h3 with | cons rb h3 =>
 cases h3
 refine assignInOrder_cons (wpAny_mono (h4 E1 J6 _ h1 ra) (fun uu J7 zz=>zz.elim fun E2 uu L8 k1 k2 k3 k4=>?_) fun _ _ z=>z.kp d h2)
 refine assignInOrder_cons (wpAny_mono (k4 E2 J7 _ k1 (rb.kp k2)) (fun uu J8 zz=>zz.elim fun E3 uu σ3 l1 l2 l3 l4=>?_) fun _ _ z=>z.kp d (h2.trans k2))
 exact assignInOrder_nil ⟨E3,(),σ3,l1,h2.trans (k2.trans l2),rfl,l4⟩
theorem WS_AssignSwap {ts vs:List Expr} {x1 x2} {tp vp pos:Pos} {I3 I4:Str} {u v:V} {K:Fl->St->Prop} (hh:c.A.handled=none)
  (h:W d c (.Tuple vs x2 vp) σ fun xv σ1=>xv = .tup [u,v]/\Ev1 d c REq v (storeName c.env I4) σ1 fun _ L8=>Ev1 d c REq u (storeName c.env I3) L8 fun _ σ3=>K .next σ3)
  (hs:swapsWithSole [.Tuple ts x1 tp] (.Tuple vs x2 vp) pos.line c.env=pure false:=by rfl) (hw:swappedStores [.Tuple ts x1 tp] (.Tuple vs x2 vp) c.env=pure (some [I3,I4]):=by rfl):WS d c (.Assign [.Tuple ts x1 tp] (.Tuple vs x2 vp) pos) σ K:=fun g s r=>by
 have e:exec (.Assign [.Tuple ts x1 tp] (.Tuple vs x2 vp) pos) c.env=(do
   standAt pos
   if <- swapsWithSole [.Tuple ts x1 tp] (.Tuple vs x2 vp) pos.line c.env then do
    evalThenUse (.Tuple vs x2 vp) c.env fun v=>assignAll v ((assignEach [.Tuple ts x1 tp] c.env).map (·.2))
    pure .next
   else do
    let v <- eval (.Tuple vs x2 vp) c.env
    assignStores c.env v (<- swappedStores [.Tuple ts x1 tp] (.Tuple vs x2 vp) c.env) ((assignEach [.Tuple ts x1 tp] c.env).map (·.2))):=rfl
 rw[e,hs,hw]
 refine wpAny_bind (wpAny_standAt (wpAny_bind (wpAny_pure (wpAny_bind (wpAny_mono (h g s r) (fun x J6 zz=>zz.elim fun E1 xv σ1 h1 h2 h3 zk=>elA zk fun e' h4=>?_) fun _ _ z=>z)))))
 subst e'
 refine wpAny_bind (wpAny_pure ?_)
 unfold assignStores
 refine wpAny_bind (wpAny_rule ?_)
 refine wpAny_bind (wpAny_mono (unpack_it hh iter_tup (fun g s x r rx Q E h=>notIter_tup g s x r rx Q E h) (K:=fun vs L8=>vs=[u,v]/\L8=σ1) ⟨rfl,rfl⟩ E1 J6 x h1 h3) (fun cs J7 zz=>zz.elim fun E2 vs L8 k1 k2 k3 zk=>elA zk fun e1 e2=>?_) fun _ _ z=>z.kp d h2)
 subst e1 e2
 cases k3 with | cons ra k3=>cases k3 with | cons rb k3 =>
 cases k3
 refine wpAny_bind (assignInOrder_cons (wpAny_bindName (wpAny_mono (h4 E2 J7 _ k1 rb) (fun uu J8 zz=>zz.elim fun E3 uu σ3 l1 l2 l3 l4=>?_) fun _ _ z=>z.kp d (h2.trans k2))))
 refine assignInOrder_cons (wpAny_bindName (wpAny_mono (l4 E3 J8 _ l1 (ra.kp l2)) (fun uu J9 zz=>zz.elim fun E4 uu σ4 m1 m2 m3 m4=>?_) fun _ _ z=>z.kp d (h2.trans (k2.trans l2))))
 exact assignInOrder_nil (wpAny_pure ⟨E4,_,σ4,m1,h2.trans (k2.trans (l2.trans m2)),.next,m4⟩)
noncomputable abbrev DelI (d:Wd) (c:Cx) (o i:V) (σ:St) (K:Unit->St->Prop):Prop:=Ev2 d c REq o i delItem σ K
theorem WS_Del {o i:Expr} {p pos:Pos} {K:Fl->St->Prop} (h:W d c o σ fun ov σ1=>W d c i σ1 fun iv L8=>DelI d c ov iv L8 fun _ σ3=>K .next σ3):WS d c (.Delete [.Subscript o i p] pos) σ K:=fun g s r=>by
 refine wpAny_Delete (wpAny_deleteEach_cons ?_)
 rw[arm_delete_Subscript]
 refine wpAny_bind (wpAny_mono (h g s r) (fun ox J6 zz=>zz.elim fun E1 ov σ1 h1 h2 h3 h4=>wpAny_bind (wpAny_holding (wpAny_mono (h4 E1 J6 h1) (fun ix J7 zz=>zz.elim fun E2 iv L8 k1 k2 k3 k4=>?_) fun _ _ z=>z.kp d h2))) fun _ _ z=>z)
 refine wpAny_bind (wpAny_standAt (wpAny_bind (wpAny_holding (wpAny_mono (k4 E2 J7 _ _ k1 (h3.kp k2) k3) (fun uu J8 zz=>zz.elim fun E3 uu σ3 l1 l2 l3 l4=>?_) fun _ _ z=>z.kp d (h2.trans k2)))))
 exact wpAny_release (wpAny_deleteEach_nil ⟨E3,_,σ3,l1,h2.trans (k2.trans l2),.next,l4⟩)
end
section
variable {d:Wd} {c:Cx} {σ:St}
structure Home (p:Addr->Prop) (L:Addr) (E1:Gh) (E9:Heap) (E3:Gh) (G2:Heap):Prop where
 own:∀ b o,E9.get? b=some o->E1 b = .own L->(E3 b = .prot\/E3 b = .frm)/\∃ o',G2.get? b=some o'/\o'.data=o.data/\(b≠L->o'=o)
 kp:KpP p E1 E9 E3 G2
 np:∀ b,p b->E1 b ≠ .frz/\E1 b ≠ .frm
open Classical in
noncomputable def gHome (E1:Gh) (E9:Heap) (L:Addr) (E3:Gh) (q:Addr->Option Ow):Gh:=fun x=>if (E9.get? x).isSome=true/\E1 x = .own L then .own L else (q x).getD (E3 x)
theorem Rep.home {p:Addr->Prop} {q:Addr->Option Ow} {E1 E3:Gh} {A A':Around} {env env':Env} {J6 J8:Shared} {σ σ3:St} (I7:Rep d E1 A env σ J6) (I9:Rep d E3 A' env' σ3 J8) (hf:env.func.isSome=true) (H:Home p env.locals E1 J6.heap E3 J8.heap)
  (hq:∀ x,(q x).isSome=true->J6.heap.get? x=none/\E3 x ≠ .frz/\(∀ ao,σ3.hp x≠some ao)/\∀ a,E3 x = .own a->σ3.hp a=none) :
  Rep d (gHome E1 J6.heap env.locals E3 q) A env ⟨σ.loc,σ3.hp⟩ J8/\KpP p E1 J6.heap (gHome E1 J6.heap env.locals E3 q) J8.heap/\(∀ b o,E3 b = .frz->J8.heap.get? b=some o->gHome E1 J6.heap env.locals E3 q b = .frz/\J8.heap.get? b=some o):=by
 have gout:∀ b o,J6.heap.get? b=some o->E1 b = .own env.locals->gHome E1 J6.heap env.locals E3 q b = .own env.locals:=fun b o e eg=>by unfold gHome;rw[if_pos ⟨by rw[e];rfl,eg⟩]
 have qn:∀ b,q b=none\/(q b).isSome=true:=fun b=>by cases q b<;>simp
 have gskip:∀ b,E3 b ≠ .prot->E3 b ≠ .frm->q b=none->gHome E1 J6.heap env.locals E3 q b=E3 b:=fun b h1 h2 hq'=>by
  unfold gHome
  rw[if_neg,hq'];rfl
  intro zr0
  refine elA zr0 fun e1 e2=>?_
  try clear zr0
  refine elE (Option.isSome_iff_exists.mp e1) fun o eo=>?_
  rcases (H.own b o eo e2).1 with z | z
  ·exact h1 z
  ·exact h2 z
 have gkeep:∀ b o,J6.heap.get? b=some o->E1 b ≠ .own env.locals->gHome E1 J6.heap env.locals E3 q b=E3 b:=fun b o e hb=>by
  unfold gHome
  rw[if_neg fun z=>hb z.2]
  rcases qn b with z | z
  ·rw[z];rfl
  ·have:=(hq b z).1;simp only[e] at this;cases this
 obtain npf:∀ b,E1 b = .frz->¬ p b:=fun b e hp=>(H.np b hp).1 e
 have kout:∀ b o,E1 b = .frz->J6.heap.get? b=some o->gHome E1 J6.heap env.locals E3 q b = .frz/\J8.heap.get? b=some o:=fun b o e eo=>by
  obtain e3:=(H.kp.frz b o (npf b e) e eo).1;obtain e4:=(H.kp.frz b o (npf b e) e eo).2
  exact⟨(gkeep b o eo (by simp only[e];exact Ow.noConfusion)).trans e3,e4⟩
 obtain up:∀ b o,E3 b = .frz->J8.heap.get? b=some o->gHome E1 J6.heap env.locals E3 q b = .frz/\J8.heap.get? b=some o:=fun b o e eo=>by
  refine ⟨(gskip b (by simp only[e];exact Ow.noConfusion) (by simp only[e];exact Ow.noConfusion) ?_).trans e,eo⟩
  rcases qn b with z | z
  ·exact z
  ·exact absurd e (hq b z).2.1
 have kp:KpP p E1 J6.heap (gHome E1 J6.heap env.locals E3 q) J8.heap:=by
  refine ⟨fun b o _=>kout b o,fun b o hp e eo=>?_,fun b o hp e eo=>?_⟩
  ·refine elA (H.kp.prot b o hp e eo) fun e3 e4=>?_
   exact⟨(gkeep b o eo (by simp only[e];exact Ow.noConfusion)).trans e3,e4⟩
  ·obtain e3:=(H.kp.frm b o hp e eo).1;obtain e4:=(H.kp.frm b o hp e eo).2
   exact⟨(gkeep b o eo (by simp only[e];exact Ow.noConfusion)).trans e3,e4⟩
 refine ⟨⟨I9.sh,fun b o e=>?_,⟨?_,fun y v e1 e2=>?_,?_,fun _ y b e=>?_,fun hf'=>(by simp only[hf] at hf';cases hf'),I7.fr.cinj,I7.fr.fn,I7.fr.glob,I7.fr.bi,I7.fr.low⟩,?_,fun a ao e=>?_,I7.ok⟩,kp,up⟩
 ·obtain e1:=(I7.base b o e).1;obtain e2:=(I7.base b o e).2
  exact kout b o e1 e2
 ·refine elEA I7.fr.ns fun m hm hmv=>?_
  refine ⟨m,?_,fun y v e1 e2=>?_⟩
  ·refine elEEEAA hm fun o es ep eo hd' z=>?_;try clear hm
   refine elAEAA (H.own _ o eo I7.fr.own) fun uu o' q1 q2 uu=>?_
   exact⟨o',es,ep,q1,q2.trans hd',z⟩
  ·refine elEA (hmv y v e1 e2) fun cv e3 rv'=>?_
   exact⟨cv,e3,rv'.mono kout⟩
 ·refine elEEAA (I7.fr.cell y v e1 e2) fun a cv e3 hn3 rv'=>?_;refine elEA hn3 fun o eo hd'=>?_;try clear hn3
  refine elAA (I7.fr.ownc hf y a e3) fun q1 q2 uu=>?_
  refine elAEAA (H.own a o eo q1) fun uu o' z1 uu z3=>?_
  exact⟨a,cv,e3,⟨o,by simp only[z1,z3 q2],hd'⟩,rv'.mono kout⟩
 ·refine elEA I7.fr.ns fun m hn1 uu=>?_;refine elEEEA hn1 fun o es ep eo uu=>?_;try clear hn1
  exact gout _ o eo I7.fr.own
 ·refine elAAEE (I7.fr.ownc hf y b e) fun q1 q2 v o zz0=>?_;refine elA zz0 fun eo hd'=>?_
  refine elEAA (H.own b o eo q1).2 fun o' z1 uu z3=>?_
  exact⟨gout b o eo q1,q2,v,o,by simp only[z1,z3 q2],hd'⟩
 ·refine elE I7.frs fun fs zz72=>?_;obtain e:=zz72.1;obtain f:=zz72.2
  refine ⟨fs,e,fun en hen=>?_⟩
  refine elAEEA (f en hen) fun e1 L o e2 zz0=>?_
  obtain e3:=zz0.1;obtain e4:=zz0.2.1;obtain e5:=zz0.2.2.1;obtain zz1:=zz0.2.2.2
  refine elEE zz1 fun es n e6=>?_
  rcases e4 with z | z
  ·refine elAE (kp.frm L o (fun hp=>(H.np L hp).2 z) z e5) fun z1 sl z2=>?_
   exact⟨e1,L,_,e2,e3,.inl z1,z2,es,n,e6⟩
  ·subst z
   refine elE (H.own _ o e5 I7.fr.own).2 fun o' zz81=>?_;obtain z1:=zz81.1;obtain z2:=zz81.2.1
   exact⟨e1,_,o',e2,e3,.inr rfl,z1,es,n,z2.trans e6⟩
 ·refine elAAA (I9.ob a ao e) fun e1 e2 e3 e4=>?_
  have hqa:q a=none:=by
   rcases qn a with z | z
   ·exact z
   ·exact absurd e ((hq a z).2.2.1 ao)
  have ga:gHome E1 J6.heap env.locals E3 q a = .own a:=(gskip a (by simp only[e1];exact Ow.noConfusion) (by simp only[e1];exact Ow.noConfusion) hqa).trans e1
  refine ⟨ga,fun z=>?_,e3,e4.gho (fun y ey=>?_) fun y ey=>?_⟩
  ·subst z
   refine elE I7.fr.ns fun m zz91=>?_;obtain hn1:=zz91.1
   refine elEEEA hn1 fun o es ep eo uu=>?_
   try clear hn1
   rcases (H.own _ o eo I7.fr.own).1 with z | z<;>rw[z] at e1<;>cases e1
  ·refine (gskip y (by rw[ey];exact Ow.noConfusion) (by rw[ey];exact Ow.noConfusion) ?_).trans ey
   rcases qn y with z | z
   ·exact z
   ·exact absurd ey (hq y z).2.1
  ·refine (gskip y (by rw[ey];exact Ow.noConfusion) (by rw[ey];exact Ow.noConfusion) ?_).trans ey
   rcases qn y with z | z
   ·exact z
   ·have:=(hq y z).2.2.2 a ey;rw[e] at this;cases this
noncomputable def clOf (scope:Scope) (env:Env):List (Str×Addr):=scope.names.foldl (fun cs nk=>if nk.2 == .free then (nk.1,(env.cells.lookup nk.1).getD 0)::cs else cs) []
theorem closureFor_eq {scope:Scope} {env:Env} (h:scope.names.all (fun nk=>nk.2 != .free||(env.cells.lookup nk.1).isSome)=true):closureFor scope env=pure (clOf scope env):=by
 delta closureFor clOf
 generalize scope.names=l at h
 obtain this:∀ (l:List (Str×NameKind)) (cs:List (Str×Addr)),l.all (fun nk=>nk.2 != .free||(env.cells.lookup nk.1).isSome)=true ->
   (forIn l cs fun x r=>(match x with | (name,kind)=>if (kind == NameKind.free)=true then do let a <- cellOf env name;pure (ForInStep.yield ((name,a)::r)) else pure (ForInStep.yield r):Sem (ForInStep (List (Str×Addr))))) =
    (pure (l.foldl (fun cs nk=>if nk.2 == .free then (nk.1,(env.cells.lookup nk.1).getD 0)::cs else cs) cs):Sem (List (Str×Addr))):=by
  intro l
  induction l with
  | nil=>intro cs _;rfl
  | cons nk r ih =>
   intro cs hl
   simp only[List.all_cons,Bool.and_eq_true] at hl
   simp only[List.forIn_cons,List.foldl_cons]
   obtain⟨name,kind⟩:=nk
   by_cases hk:(kind == NameKind.free)=true
   ·obtain hs:(env.cells.lookup name).isSome=true:=by
     obtain this:=hl.1
     simp only[Bool.or_eq_true] at this
     rcases this with z | z
     ·simp at hk;simp[hk] at z
     ·exact z
    refine elE (Option.isSome_iff_exists.mp hs) fun a ha=>?_
    simp only[hk,if_true,ha,Option.getD_some]
    delta cellOf
    simp only[ha]
    exact ih _ hl.2
   ·simp only[hk]
    exact ih _ hl.2
 obtain e:=this l [] h
 simpa using e
theorem clOf_lookup {scope:Scope} {env:Env} (h:scope.names.all (fun nk=>nk.2 != .free||(env.cells.lookup nk.1).isSome)=true) {x:Str} {a:Addr} (e:(clOf scope env).lookup x=some a):env.cells.lookup x=some a:=by
 delta clOf at e
 generalize scope.names=l at h e
 obtain this:∀ (l:List (Str×NameKind)) (cs:List (Str×Addr)),l.all (fun nk=>nk.2 != .free||(env.cells.lookup nk.1).isSome)=true->(∀ x a,cs.lookup x=some a->env.cells.lookup x=some a) ->
   ∀ x a,(l.foldl (fun cs nk=>if nk.2 == .free then (nk.1,(env.cells.lookup nk.1).getD 0)::cs else cs) cs).lookup x=some a->env.cells.lookup x=some a:=by
  intro l
  induction l with
  | nil=>intro cs _ hc;exact hc
  | cons nk r ih =>
   intro cs hl hc
   simp only[List.all_cons,Bool.and_eq_true] at hl
   simp only[List.foldl_cons]
   refine ih _ hl.2 fun x a hx=>?_
   split at hx
   ·rename_i hk
    obtain hs:(env.cells.lookup nk.1).isSome=true:=by
     obtain this:=hl.1
     simp only[Bool.or_eq_true] at this
     rcases this with z | z
     ·simp at hk;simp[hk] at z
     ·exact z
    refine elE (Option.isSome_iff_exists.mp hs) fun b hb=>?_
    simp only[List.lookup_cons] at hx
    split at hx
    ·rename_i q
     cases hx
     simp only[eq_of_beq q,hb];rfl
    ·exact hc x a hx
   ·exact hc x a hx
 exact this l [] h (fun _ _ q=>nomatch q) x a e
end
section
variable {d:Wd} {c:Cx} {σ:St}
noncomputable def WIf (d:Wd) (c:Cx):List Expr->St->(Bool->St->Prop)->Prop
 | [],σ,K=>K true σ
 | [t],σ,K=>WT d c t σ K
 | _,_,_=>False
noncomputable def CompRun (d:Wd) (c:Cx) (target:Expr) (ifs:List Expr) (elt:Expr) (side:(Addr->Option AO)->Prop) (K:List V->(Addr->Option AO)->Prop):List V->List V->St->Prop
 | [],acc,σ=>K acc σ.hp
 | x::xs,acc,σ=>Asg d c target x σ fun _ σ1=>WIf d c ifs σ1 fun ok L8=>if ok=true then W d c elt L8 fun v σ3=>side σ3.hp/\CompRun d c target ifs elt side K xs (acc++[v]) σ3 else side L8.hp/\CompRun d c target ifs elt side K xs acc L8
noncomputable abbrev cxC (c:Cx) (scope:Scope) (C:Addr):Cx:=⟨c.A,compEnvC scope (clOf scope c.env) C c.env,fun _ _=>False⟩
theorem ifs_run {c:Cx} {ifs:List Expr} {σ:St} {K:Bool->St->Prop} (h:WIf d c ifs σ K) (g:Gh) (s:Shared) (r:Rep d g c.A c.env σ s) :
  wpAny (model d.prog d.w) c.A (forIn ifs true fun t r=>if r=true then do let ok <- isTrue t c.env (eval t c.env);pure (ForInStep.yield ok) else pure (ForInStep.yield r)) (PostQ d c g s REq K) (PostX d c g s) s:=by
 match ifs,h with
 | [],h=>simp only[List.forIn_nil];exact wpAny_pure (.here r rfl h)
 | [t],h =>
  simp only[List.forIn_cons]
  simp only[if_true]
  refine wpAny_bind (wpAny_bind (wpAny_mono (h g s r) (fun b J6 z=>wpAny_pure ?_) fun _ _ z=>z))
  refine (?_:wpAny _ _ (forIn [] b _) _ _ _)
  simp only[List.forIn_nil]
  exact wpAny_pure z
structure CompOk (c:Cx) (scope:Scope) (l:List (Str×V)) (σ:St):Prop where
 func:c.env.func.isSome=true
 handled:c.A.handled=none
 kind:scope.kind = .function
 ncell:∀ y∈scope.names,y.2 ≠ .cell
 names:∀ y∈scope.names,y.2 = .local->scope.names.lookup y.1=some .local
 cl:scope.names.all (fun nk=>nk.2 != .free||(c.env.cells.lookup nk.1).isSome)=true
 loc:∀ kv∈l,(relabel scope c.env).names.lookup kv.1=some .cell/\c.env.kindOf kv.1=some .cell/\((clOf scope c.env).lookup kv.1).isSome=true/\σ.loc kv.1=some kv.2
theorem look_in {α κ:Type} [DecidableEq κ] {k:κ} {v:α}:∀ {l:List (κ×α)},look k l=some v->(k,v)∈l
 | [],e=>nomatch e
 | (k',v')::r,e=>by
  unfold look at e
  by_cases h:k'=k
  ·subst h;rw[if_pos rfl] at e;cases e;exact .head _
  ·rw[if_neg h] at e;exact .tail _ (look_in e)
theorem comp_core {elt target iter:Expr} {ifs:List Expr} {scope:Scope} {pos:Pos} {xs:List V} {side:(Addr->Option AO)->Prop} {it:Addr} {At:Gh->Heap->Nat->Prop} {l:List (Str×V)} {E2:Gh} {J7:Shared} {K:List V->(Addr->Option AO)->Prop} {w:Addr->Ow}
  {RR:Value->Addr->Result->Shared->Prop} {E:Value->Shared->Prop} (O:CompOk c scope l σ) (S:ItSpec d it xs side At) (hlen:xs.length<=1000) (I8:Rep d E2 c.A c.env σ J7) (A8:At E2 J7.heap 0) (hside:side σ.hp)
  (run:∀ C,CompRun d (cxC c scope C) target ifs elt side K xs [] ⟨lk l,σ.hp⟩)
  (fin:∀ D C E4 J9 acc items n hp',Rep d E4 c.A c.env ⟨σ.loc,hp'⟩ J9->KpP (· = it) E2 J7.heap E4 J9.heap->J7.heap.get? D=none->J7.heap.get? C=none->D≠C->E4 D=w D->E4 C = .prot->IsL J9.heap D items n->RepVs E4 J9.heap acc items.toList->acc.length<=1000 ->
   hp' D=none->d.hB.objs.size<=D->(∃ m,J9.heap.Ns C m)->K acc hp'->RR (.ref D) C (.ok .next) J9)
  (ht:∀ it v,letOwnedTupleGo target it v=pure ():=by intro _ _;rfl) :
  wpAny (model d.prog d.w) c.A (newList []) (fun acc J8=>wpAny (model d.prog d.w) c.A (newFunctionEnv scope c.env.globals (clOf scope c.env) [] c.env.qual none .none (some c.env)) (fun cenv J9 =>
   codeAny (model d.prog d.w) c.A (.compStart (.ListComp elt [⟨target,iter,ifs,0⟩] scope pos) 0 (.ref it) acc { cenv with scope:=relabel scope c.env }) (RR acc cenv.locals) J9) E J8) E J7:=by
 refine wpAny_newObj_type (wpAny_newFunctionEnv O.ncell (by intro y hy;simp at hy) (fun E9 hns1 hsb1=>?_) O.kind)
 dsimp only at hns1 hsb1 ⊢
 generalize hH2:J7.heap.push { cls:=.type "list",dict:=none,data:=.seq ([]:List Value).toArray }=H2 at hns1 hsb1 ⊢
 have hC:H2.objs.size=J7.heap.objs.size+1:=by rw[<- hH2,Heap.size_push]
 have hDC:J7.heap.objs.size≠H2.objs.size:=by simp only[hC];exact Nat.ne_of_lt (Nat.lt_succ_self _)
 have below:∀ b,b < J7.heap.objs.size->b≠H2.objs.size/\b≠J7.heap.objs.size:=fun b hb=>⟨by simp only[hC];exact Nat.ne_of_lt (Nat.lt_succ_of_lt hb),Nat.ne_of_lt hb⟩
 have old:∀ b o,J7.heap.get? b=some o->E9.get? b=some o:=fun b o e=>hsb1.extBut b o (below b (Heap.lt_size e)).1 (Heap.get?_push_of_some _ (hH2 ▸ Heap.get?_push_of_some _ e))
 have hacc:IsL E9 J7.heap.objs.size #[] 0:=hsb1.extBut _ _ hDC (Heap.get?_push_of_some _ (hH2 ▸ Heap.get?_push_size _ rfl))
 have fresh:∀ a,J7.heap.objs.size<=a->J7.heap.get? a=none:=fun a ha=>by
  cases e:J7.heap.get? a with
  | none=>rfl
  | some o'=>exact absurd (Heap.lt_size e) (Nat.not_lt.mpr ha)
 generalize hD:J7.heap.objs.size=D at *
 generalize hCC:H2.objs.size=C at *
 have fD:J7.heap.get? D=none:=fresh D (Nat.le_refl _)
 have fC:J7.heap.get? C=none:=fresh C (by simp only[hC];exact Nat.le_succ _)
 let L:=c.env.locals
 let g':Gh:=gset (gIn E2 J7.heap L C) D .prot
 have gD:g' D = .prot:=gset_self ..
 have gOld:∀ b o,J7.heap.get? b=some o->g' b=gIn E2 J7.heap L C b:=fun b o e=>if_neg (below b (hD ▸ Heap.lt_size e)).2
 have gkeep:∀ b o,J7.heap.get? b=some o->E2 b ≠ .own L->g' b=E2 b:=fun b o e hn=>(gOld b o e).trans (gIn_keep e hn)
 have gC:g' C = .own C:=by
  refine (?_:(if C=D then _ else _)=_)
  rw[if_neg (Ne.symm hDC)]
  unfold gIn
  rw[fC];rfl
 have gown:∀ b o,J7.heap.get? b=some o->E2 b = .own L->g' b=if b=L then .frm else .prot:=fun b o e eg=>by rw[gOld b o e,gIn_some e,if_pos eg]
 have kin:∀ b o,E2 b = .frz->J7.heap.get? b=some o->g' b = .frz/\E9.get? b=some o:=fun b o e eo=>⟨(gkeep b o eo (by rw[e];exact Ow.noConfusion)).trans e,old b o eo⟩
 have kp0:Kp E2 J7.heap g' E9:=⟨kin,fun b o e eo=>⟨(gkeep b o eo (by rw[e];exact Ow.noConfusion)).trans e,old b o eo⟩,fun b o e eo=>⟨(gkeep b o eo (by rw[e];exact Ow.noConfusion)).trans e,o.slots,old b o eo⟩⟩
 have hlow:d.hB.objs.size<=D:=hD ▸ I8.low
 have R0:Rep d g' c.A (compEnvC scope (clOf scope c.env) C c.env) ⟨lk l,σ.hp⟩ { J7 with heap:=E9,toks:=J7.toks+([]:List (Str×Value)).length }:=by
  refine ⟨sh_ch I8.sh,fun b o e=>?_,⟨⟨_,hns1,fun y v e1 e2=>?_⟩,fun y v e1 e2=>?_,gC,fun hf=>(by cases hf),fun _ y b e=>?_,fun y z a e1 e2=>?_,O.kind,I8.fr.glob,I8.fr.bi,?_⟩,?_,fun a ao e=>?_,I8.ok⟩
  ·obtain e1:=(I8.base b o e).1;obtain e2:=(I8.base b o e).2
   exact kin b o e1 e2
  ·have e3:(relabel scope c.env).names.lookup y=some .local:=e2
   rw[(O.loc _ (look_in e1)).1] at e3;cases e3
  ·obtain q1:=(O.loc _ (look_in e1)).1;obtain q2:=(O.loc _ (look_in e1)).2.1;obtain q3:=(O.loc _ (look_in e1)).2.2.1;obtain q4:=(O.loc _ (look_in e1)).2.2.2
   refine elEEAA (I8.fr.cell y v q4 q2) fun a cv e3 hn3 rv=>?_
   refine elEA hn3 fun o eo hd'=>?_
   try clear hn3
   refine elE (Option.isSome_iff_exists.mp q3) fun b hb=>?_
   have:=clOf_lookup O.cl hb
   rw[e3] at this;cases this
   exact⟨a,cv,hb,⟨o,old a o eo,hd'⟩,rv.mono kin⟩
  ·obtain e':=clOf_lookup O.cl e
   refine elAAEE (I8.fr.ownc O.func y b e') fun q1 q2 v o zz0=>?_
   obtain eo:=zz0.1;obtain hd':=zz0.2
   exact⟨by rw[gown b o eo q1,if_neg q2],v,o,old b o eo,hd'⟩
  ·exact I8.fr.cinj y z a (clOf_lookup O.cl e1) (clOf_lookup O.cl e2)
  ·refine (?_:d.hB.objs.size<=C)
   simp only[hC];exact Nat.le_succ_of_le hlow
  ·refine elE I8.frs fun fs zz106=>?_;obtain e:=zz106.1;obtain f:=zz106.2
   refine ⟨fs,e,fun en hen=>?_⟩
   refine elAEEA (f en hen) fun e1 L' o e2 zz0=>?_
   obtain e3:=zz0.1;obtain e4:=zz0.2.1;obtain e5:=zz0.2.2.1;obtain zz1:=zz0.2.2.2
   refine elEE zz1 fun es n e6=>?_
   refine ⟨e1,L',o,e2,e3,.inl ?_,old _ _ e5,es,n,e6⟩
   rcases e4 with q | q
   ·simp only[gkeep L' o e5 (by rw[q];exact Ow.noConfusion),q]
   ·subst q;rw[gown _ o e5 I8.fr.own,if_pos rfl]
  ·obtain e1:=(I8.ob a ao e).1;obtain e2:=(I8.ob a ao e).2.1;obtain e3:=(I8.ob a ao e).2.2.1;obtain e4:=(I8.ob a ao e).2.2.2
   refine elE (I8.lt e) fun o eo=>?_
   obtain hne:∀ y o',J7.heap.get? y=some o'->(E2 y = .frz\/E2 y = .own a)->g' y=E2 y/\E9.get? y=some o':=fun y o' ey hy =>
    ⟨gkeep y o' ey (by rcases hy with q | q<;>rw[q];exact Ow.noConfusion;exact Ow.own_ne e2),old _ _ ey⟩
   exact⟨(hne a o eo (.inr e1)).1.trans e1,(below a (hD ▸ Heap.lt_size eo)).1,e3,e4.in hne e1⟩
 have A9:At g' E9 0:=S.keep _ _ _ _ _ A8 kp0
 refine elAEA (S.lbl _ _ _ A8) fun itp oit itx uu=>?_
 have hitD:it≠D:=fun q=>clZ fD itx q
 obtain hitC:it≠C:=fun q=>by simp only[q,fC] at itx;cases itx
 let p:Addr->Prop:=fun x=>x=it\/x=D
 let c':=cxC c scope C
 obtain loop:∀ J8:Shared,J8={ J7 with heap:=E9,toks:=J7.toks+([]:List (Str×Value)).length } ->
   codeAny (model d.prog d.w) c.A (.compLoop (.ListComp elt [⟨target,iter,ifs,0⟩] scope pos) 0 (.ref it) (.ref D) c'.env) (RR (.ref D) C) J8:=by
  rintro J8 rfl
  refine codeAny_compLoop_tests (I:=fun n s=>∃ g σ k acc items nn,n=xs.length - k/\k<=xs.length/\Rep d g c.A c'.env σ s/\At g s.heap k/\side σ.hp/\g D = .prot/\IsL s.heap D items nn/\RepVs g s.heap acc items.toList/\acc.length<=k /\
   CompRun d c' target ifs elt side K (xs.drop k) acc σ/\KpP p g' E9 g s.heap) ?_ xs.length ⟨g',_,0,[],#[],0,Y69,by walk_at "o",R0,A9,hside,gD,hacc,.nil,by simp,run C,(Kp.refl ..).p p⟩ (ht _)
  intro n s zr2
  refine elEEEE zr2 fun E3 σ3 k acc zz0=>?_
  refine elEEAAA zz0 fun items nn hn' hk I9 zz1=>?_
  refine elAAAAAA zz1 fun at3 side3 gD3 hL3 rvs3 hacc3 zz2=>?_
  obtain run3:=zz2.1;obtain kx:=zz2.2
  try clear zr2
  obtain l1:=(S.lbl _ _ _ at3).1;refine elEA (S.lbl _ _ _ at3).2 fun o l2 l3=>?_
  by_cases hlt:k < xs.length
  ·simp only[List.drop_eq_getElem_cons hlt] at run3
   refine S.item c' E3 s σ3 k xs[k] I9 side3 at3 (List.getElem?_eq_getElem hlt) _ _ fun v h' t rv B0 hext=>?_
   obtain J0:=I9.itUpd l1 l2 l3 hext t
   obtain hL4:IsL h' D items nn:=hext D _ (Ne.symm hitD) hL3
   obtain rvs4:=rvs3.mono (frz_ext l1 hext)
   refine wpAny_mono (run3 E3 _ v J0 rv) (fun uu K0 zz=>zz.elim fun g5 uu σ5 J1 H8 uu hb=>?_) (fun uu uu zz=>zz.elim fun uu uu uu uu uu uu q=>q.elim)
   refine wpAny_mono (ifs_run hb g5 K0 J1) (fun ok s6 zz=>zz.elim fun g6 ok' σ6 J2 H9 C5 hf=>?_) (fun uu uu zz=>zz.elim fun uu uu uu uu uu uu q=>q.elim)
   cases C5
   obtain k56:=H8.trans H9
   obtain kx6:KpP p g' E9 g6 s6.heap:=(kx.trans (KpP.ext hext (.inl rfl))).trans (k56.p p)
   obtain gD6:=(k56.prot D _ gD3 hL4).1;obtain hL6:=(k56.prot D _ gD3 hL4).2
   obtain a6:=S.keep _ _ _ _ _ B0 k56
   obtain rvs6:=rvs4.kp k56
   cases ok with
   | false =>
    simp only[Bool.false_eq_true,if_false] at hf ⊢
    exact⟨xs.length - (k+1),dn_lt hn' hlt,g6,σ6,k+1,acc,items,nn,rfl,hlt,J2,a6,hf.1,gD6,hL6,rvs6,Nat.le_succ_of_le hacc3,hf.2,kx6⟩
   | true =>
    simp only[if_true] at hf ⊢
    refine wpAny_mono (hf g6 s6 J2) (fun y s7 zz=>zz.elim fun g7 v' σ7 J3 I2 rv7 zk=>elA zk fun E7 run7=>?_) (fun uu uu zz=>zz.elim fun uu uu uu uu uu uu q=>q.elim)
    obtain gD7:=(I2.prot D _ gD6 hL6).1;obtain hL7:=(I2.prot D _ gD6 hL6).2
    obtain a7:=S.keep _ _ _ _ _ a6 I2
    have rvs7:=rvs6.kp I2
    refine append_at hL7 (fun G5 E8 ho8=>?_) (by simp only[szI rvs7,sizeLine_eq];omega)
    obtain J4:=J3.itUpd gD7 hL7 (fun v q=>by cases q) E8.extBut s7.toks
    obtain fe:=frz_ext gD7 E8.extBut
    obtain a8:At g7 G5 (k+1):=S.keepP (· = D) g7 s7.heap g7 G5 _ a7 hitD (fun b q=>by simp only[q,gD7];exact Ow.noConfusion) (KpP.ext E8.extBut rfl)
    exact⟨xs.length - (k+1),dn_lt hn' hlt,g7,σ7,k+1,acc++[v'],_,_,rfl,hlt,J4,a8,E7,gD7,ho8,by simpa using (rvs7.mono fe).append (.cons (rv7.mono fe) .nil),by simp;exact Y174 hacc3,run7,(kx6.trans (I2.p p)).trans (KpP.ext E8.extBut (.inr rfl))⟩
  ·obtain hke:k=xs.length:=Y180 hk hlt
   subst hke
   rw[List.drop_length] at run3
   refine S.stop c' E3 s σ3 _ I9 O.handled side3 at3 (List.getElem?_eq_none_iff.mpr (Nat.le_refl _)) _ _ fun h' t hext=>?_
   have J0:=I9.itUpd l1 l2 l3 hext t
   have kx4:KpP p g' E9 E3 h':=kx.trans (KpP.ext hext (.inl rfl))
   have np:∀ b o,J7.heap.get? b=some o->b≠it->¬ p b:=fun b o e hb q=>q.elim hb fun q=>clZ fD e q
   have H:Home (· = it) L E2 J7.heap E3 h':=by
    refine ⟨fun b o e eg=>?_,⟨fun b o hp e eo=>?_,fun b o hp e eo=>?_,fun b o hp e eo=>?_⟩,fun b hb=>by simp only[hb,itp];exact⟨Ow.noConfusion,Ow.noConfusion⟩⟩
    ·obtain hb:b≠it:=fun q=>by simp only[q,itp] at eg;cases eg
     by_cases hbL:b=L
     ·refine elAE (kx4.frm b o (np b o e hb) (by rw[gown b o e eg,if_pos hbL]) (old b o e)) fun q1 sl q2=>?_
      exact⟨.inr q1,_,q2,rfl,fun z=>absurd hbL z⟩
     ·obtain q1:=(kx4.prot b o (np b o e hb) (by rw[gown b o e eg,if_neg hbL]) (old b o e)).1;obtain q2:=(kx4.prot b o (np b o e hb) (by rw[gown b o e eg,if_neg hbL]) (old b o e)).2
      exact⟨.inl q1,_,q2,rfl,fun _=>rfl⟩
    ·exact kx4.frz b o (np b o eo hp) (kp0.frz b o e eo).1 (kp0.frz b o e eo).2
    ·exact kx4.prot b o (np b o eo hp) (kp0.prot b o e eo).1 (kp0.prot b o e eo).2
    ·exact kx4.frm b o (np b o eo hp) ((gkeep b o eo (by rw[e];exact Ow.noConfusion)).trans e) (old b o eo)
   have hpD:σ3.hp D=none:=by
    cases q:σ3.hp D with
    | none=>rfl
    | some ao=>have:=(J0.ob D ao q).1;rw[gD3] at this;cases this
   have gC3:E3 C = .own C:=J0.fr.own
   have hpC:σ3.hp C=none:=by
    cases q:σ3.hp C with
    | none=>rfl
    | some ao=>exact absurd rfl (J0.ob C ao q).2.1
   let q:Addr->Option Ow:=fun x=>if x=D then some (w D) else if x=C then some .prot else none
   obtain⟨R,kR,up⟩:=Rep.home (q:=q) I8 J0 O.func H (fun x hx=>by
    by_cases hxD:x=D
    ·subst hxD
     exact⟨fD,(by rw[gD3];exact Ow.noConfusion),fun ao z=>(by rw[hpD] at z;cases z),fun a z=>(by rw[gD3] at z;cases z)⟩
    ·by_cases hxC:x=C
     ·subst hxC
      exact⟨fC,(by rw[gC3];exact Ow.noConfusion),fun ao z=>(by rw[hpC] at z;cases z),fun a z=>(by rw[gC3] at z;cases z;exact hpC)⟩
     ·simp[q,hxD,hxC] at hx)
   have gHD:gHome E2 J7.heap L E3 q D=w D:=by
    unfold gHome
    rw[if_neg (by rw[fD];simp)]
    simp[q]
   have gHC:gHome E2 J7.heap L E3 q C = .prot:=by
    unfold gHome
    rw[if_neg (by rw[fC];simp)]
    simp[q,Ne.symm hDC]
   obtain hL4:IsL h' D items nn:=hext D _ (Ne.symm hitD) hL3
   have rvs4:=rvs3.mono (frz_ext l1 hext)
   refine elEA J0.fr.ns fun m hm uu=>?_
   exact fin D C _ _ acc items nn σ3.hp R kR fD fC hDC gHD gHC hL4 (rvs4.mono up) (Y196 hlen hacc3) hpD hlow ⟨m,hm⟩ run3
 exact codeAny_compStart_list (loop _ rfl) (S.self _ _ _ _ A9 _ _ (loop _ rfl))
end
section
variable {d:Wd} {c:Cx} {σ:St}
theorem Rep.addObj {g:Gh} {A:Around} {env:Env} {s:Shared} {a:Addr} {ao:AO} (r:Rep d g A env σ s) (h1:g a = .own a) (h2:a≠env.locals) (h3:d.hB.objs.size<=a) (h4:RepO d g s.heap a ao):Rep d g A env (σ.upd a ao) s :=
 ⟨r.sh,r.base,r.fr,r.frs,fun b bo e=>by
  by_cases q:b=a
  ·subst q;rw[show (σ.upd b ao).hp b=some ao from updH_at] at e;cases e;exact⟨h1,h2,h3,h4⟩
  ·rw[show (σ.upd a ao).hp b=σ.hp b from updH_ne q] at e;exact r.ob b bo e,r.ok⟩
noncomputable def compK (fz:Bool) (loc:Str->Option V) (K:V->St->Prop) (acc:List V) (hp:Addr->Option AO):Prop :=
 if fz=true then K (.lst acc) ⟨loc,hp⟩ else ∀ D,hp D=none->K (.obj D) ((⟨loc,hp⟩:St).upd D (.list acc))
noncomputable def compW (fz:Bool) (D:Addr):Ow:=if fz=true then .frz else .own D
theorem comp_fin {fz:Bool} {K:V->St->Prop} {D:Addr} {g:Gh} {s:Shared} {acc:List V} {items:Array Value} {n:Nat} {hp:Addr->Option AO} (r:Rep d g c.A c.env ⟨σ.loc,hp⟩ s) (hD:D≠c.env.locals) (hw:g D=compW fz D) (hL:IsL s.heap D items n) (rv:RepVs g s.heap acc items.toList)
  (hn:hp D=none) (hl:d.hB.objs.size<=D) (k:compK fz σ.loc K acc hp):∃ v σ',Rep d g c.A c.env σ' s/\RepV g s.heap v (.ref D)/\K v σ':=by
 cases fz with
 | true=>exact⟨_,_,r,.lst hw hL rv,k⟩
 | false=>exact⟨_,_,r.addObj (ao:=.list acc) hw hD hl ⟨items,n,hL,rv⟩,.raw _,k D hn⟩
theorem W_CompG (fz:Bool) {elt target iter:Expr} {ifs:List Expr} {scope:Scope} {pos:Pos} {l:List (Str×V)} {K:V->St->Prop}
  (h:W d c iter σ fun xv σ1=>∃ xs side,PyIter d c xv σ1 xs side/\xs.length<=1000/\CompOk c scope l σ1/\∀ C,CompRun d (cxC c scope C) target ifs elt side (compK fz σ1.loc K) xs [] ⟨lk l,σ1.hp⟩)
  (hk:scope.kind = .function) (hnm:∀ y∈scope.names,y.2 = .local->scope.names.lookup y.1=some .local) (hcl:scope.names.all (fun nk=>nk.2 != .free||(c.env.cells.lookup nk.1).isSome)=true)
  (hs:∀ x,foldedSetIterable iter c.env x=pure x:=by intro _;rfl) (ht:∀ it v,letOwnedTupleGo target it v=pure ():=by intro _ _;rfl):W d c (.ListComp elt [⟨target,iter,ifs,0⟩] scope pos) σ K:=fun g s r=>by
 simp only[eval_ListComp]
 refine wpAny_comprehension_free (use:=none) rfl hs (closureFor_eq hcl) hk hnm (Ev.b (h g s r) fun x J6 E1 xv σ1 h1 h2 h3 zk=>elEEAAA zk fun xs side hm2 hlen O run=>elA hm2 fun hside hit=>?_)
 refine hit E1 J6 x h1 h3 _ _ fun it At E2 J7 S I8 A8 G8 hn=>?_
 refine comp_core (RR:=fun acc C=>compPost (model d.prog d.w) c.A _ none _ acc C) (w:=compW fz) O S hlen I8 A8 hside run (fun D C E4 J9 acc items n hp' R kR fD fC hDC gD gC hL rv hal hpD hlow ⟨m,hm⟩ hK=>?_) ht
 refine ⟨m,hm,fun h' hs'=>?_⟩
 refine elEEE (id hm) fun oC esC epC zz34=>?_;obtain eoC:=zz34.1;obtain hdC:=zz34.2.1
 obtain R':=R.itUpd gC eoC (fun v q=>by simp only[hdC] at q;cases q) hs'.extBut J9.toks
 obtain fe:=frz_ext gC hs'.extBut
 obtain hDL:D≠c.env.locals:=fun q=>by
  refine elE I8.fr.ns fun uu zz38=>?_;obtain hn1:=zz38.1
  refine elEEE hn1 fun o uu uu zz39=>?_;obtain eo:=zz39.1
  try clear hn1
  simp only[<- q,fD] at eo;cases eo
 refine elEE (comp_fin (c:=c) (σ:=σ1) R' hDL gD (hs'.extBut D _ hDC hL) (rv.mono fe) hpD hlow hK) fun v σ' zz42=>?_;obtain q1:=zz42.1;obtain q2:=zz42.2.1;obtain q3:=zz42.2.2
 obtain kf:Kp g s.heap E4 h':=by
  refine h2.trans (KpX.kp (it:=it) ((G8.x it).trans ⟨fun a o n e eo=>?_,fun a o n e eo=>?_,fun a o n e eo=>?_⟩) hn)
  ·obtain e1:=(kR.frz a o n e eo).1;obtain e2:=(kR.frz a o n e eo).2
   exact⟨e1,(fe a o e1 e2).2⟩
  ·obtain e1:=(kR.prot a o n e eo).1;obtain e2:=(kR.prot a o n e eo).2
   exact⟨e1,hs'.extBut a o (fun q=>clZ fC eo q) e2⟩
  ·obtain e1:=(kR.frm a o n e eo).1;refine elE (kR.frm a o n e eo).2 fun sl e2=>?_
   exact⟨e1,sl,hs'.extBut a _ (fun q=>clZ fC eo q) e2⟩
 exact⟨E4,v,σ',q1,kf,q2,q3⟩
theorem WS_AssignCompG (fz:Bool) {elt target iter:Expr} {ifs:List Expr} {scope:Scope} {y:Str} {py pos spos:Pos} {l:List (Str×V)} {K:Fl->St->Prop}
  (hsw:swapsWith (.ListComp elt [⟨target,iter,ifs,0⟩] scope pos) (some (.Name y py)) spos.line c.env=pure true)
  (h:W d c iter σ fun xv σ1=>∃ xs side,PyIter d c xv σ1 xs side/\xs.length<=1000/\CompOk c scope l σ1/\∀ C,CompRun d (cxC c scope C) target ifs elt side (compK fz σ1.loc fun v L8=>Asg d c (.Name y py) v L8 fun _ σ3=>K .next σ3) xs [] ⟨lk l,σ1.hp⟩)
  (hk:scope.kind = .function) (hnm:∀ y∈scope.names,y.2 = .local->scope.names.lookup y.1=some .local) (hcl:scope.names.all (fun nk=>nk.2 != .free||(c.env.cells.lookup nk.1).isSome)=true)
  (hs:∀ x,foldedSetIterable iter c.env x=pure x:=by intro _;rfl) (ht:∀ it v,letOwnedTupleGo target it v=pure ():=by intro _ _;rfl):WS d c (.Assign [.Name y py] (.ListComp elt [⟨target,iter,ifs,0⟩] scope pos) spos) σ K:=fun g s r=>by
 simp only[exec_Assign_Name_used _ _ _ _ hsw]
 refine wpAny_bind (wpAny_standAt (wpAny_bind ?_))
 refine (?_:wpAny _ c.A (do let _ <- comprehension (.ListComp elt [⟨target,iter,ifs,0⟩] scope pos) scope c.env _ (newList []) false (eval iter c.env) (some (assign (.Name y py) c.env))) _ _ s)
 refine wpAny_bind (wpAny_mono (wpAny_comprehension_free (use:=some (assign (.Name y py) c.env)) (Q:=fun _ s'=>PostQ d c g s RepF K .next s') rfl hs (closureFor_eq hcl) hk hnm
  (wpAny_mono (h g s r) (fun x J6 zz=>zz.elim fun E1 xv σ1 h1 h2 h3 zk=>elEEAAA zk fun xs side hm2 hlen O run=>elA hm2 fun hside hit=>?_) fun _ _ z=>z)) (fun _ s' hq=>wpAny_pure (wpAny_pure hq)) fun _ _ e=>e)
 refine hit E1 J6 x h1 h3 _ _ fun it At E2 J7 S I8 A8 G8 hn=>?_
 refine comp_core (RR:=fun acc C=>compPost (model d.prog d.w) c.A _ (some (assign (.Name y py) c.env)) _ acc C) (w:=compW fz) O S hlen I8 A8 hside run (fun D C E4 J9 acc items n hp' R kR fD fC hDC gD gC hL rv hal hpD hlow ⟨m,hm⟩ hK=>?_) ht
 obtain hDL:D≠c.env.locals:=fun q=>by
  refine elEA I8.fr.ns fun uu hn1 uu=>?_
  refine elEEEA hn1 fun o uu uu eo uu=>?_
  try clear hn1
  simp only[<- q,fD] at eo;cases eo
 refine elEEAA (comp_fin (c:=c) (σ:=σ1) R hDL gD hL rv hpD hlow hK) fun v σ' q1 q2 q3=>?_
 refine elEEEAA (id hm) fun oC esC epC eoC hdC hmC=>?_
 have kf4:Kp E1 J6.heap E4 J9.heap:=KpX.kp (it:=it) ((G8.x it).trans ⟨fun a o n e eo=>kR.frz a o n e eo,fun a o n e eo=>kR.prot a o n e eo,fun a o n e eo=>kR.frm a o n e eo⟩) hn
 refine wpAny_mono (q3 E4 J9 _ q1 q2) (fun uu K0 zz=>zz.elim fun g5 uu σ5 J1 H8 uu hK5=>?_) (fun e s' z=>(z.kp d kf4).kp d h2)
 obtain gC5:=(H8.prot C oC gC eoC).1;obtain eC5:=(H8.prot C oC gC eoC).2
 refine ⟨m,⟨oC,esC,epC,eC5,hdC,hmC⟩,fun h' hs'=>?_⟩
 obtain R':=J1.itUpd gC5 eC5 (fun v q=>by rw[hdC] at q;cases q) hs'.extBut K0.toks
 obtain kf5:=kf4.trans H8
 obtain kf:Kp E1 J6.heap g5 h':=by
  refine ⟨fun a o e eo=>?_,fun a o e eo=>?_,fun a o e eo=>?_⟩
  ·refine elA (kf5.frz a o e eo) fun e1 e2=>?_
   exact⟨e1,hs'.extBut a o (fun q=>by have:=(G8.frz a o e eo).2;simp only[q,fC] at this;cases this) e2⟩
  ·refine elA (kf5.prot a o e eo) fun e1 e2=>?_
   exact⟨e1,hs'.extBut a o (fun q=>by have:=(G8.prot a o e eo).2;simp only[q,fC] at this;cases this) e2⟩
  ·obtain e1:=(kf5.frm a o e eo).1;refine elE (kf5.frm a o e eo).2 fun sl e2=>?_
   exact⟨e1,sl,hs'.extBut a _ (fun q=>by refine elAE (G8.frm a o e eo) fun uu sl2 this=>?_;simp only[q,fC] at this;cases this) e2⟩
 exact⟨g5,.next,σ5,R',h2.trans kf,.next,hK5⟩
end
section
variable {d:Wd} {c:Cx} {σ:St}
theorem Rep.grown {g:Gh} {A:Around} {env:Env} {s:Shared} {h':Heap} (r:Rep d g A env σ s) (hk:∀ b o,s.heap.get? b=some o->h'.get? b=some o) (t:Tok):Rep d g A env σ { s with heap:=h',toks:=t }/\Kp g s.heap g h':=by
 refine elE r.fr.ns fun m zz10=>?_;obtain hm:=zz10.1
 obtain ch:Ch env.locals s.heap.objs.size g s.heap g h':=⟨fun b ob e _ _=>⟨rfl,hk b ob e⟩,⟨m,hm,hm.keeps hk⟩,rfl,r.fr.own⟩
 obtain this:=r.but (o:=none) (t:=t) ch (Nat.ne_of_gt r.size) (fun _ e=>nomatch e)
 simp only[St.same r.fresh] at this
 exact⟨this,ch.kp⟩
theorem call_range {n:Int} {K:V->St->Prop} (h:K (.rng n) σ):CallV d c (.type "range") [.int n] [] σ K:=cl_i fun g s r t=>by
  refine call_range_1 ?_
  exact⟨gset g s.heap.objs.size .frz,_,σ,r.pushed _ .frz _,(r.chPush _ _).kp,.rng (gset_self ..) (IsRange.new ..),h⟩
theorem ints_are {g:Gh} {h:Heap}:∀ {ns:List Int} {cs:List Value},RepVs g h (ns.map V.int) cs->IntsAre cs ns
 | [],_,h=>by rw[h.n];exact .nil
 | n::ns,_,h=>elEEAA h.c fun c cs e a r=>elE a.i fun t e2=>by rw[e,e2];exact .cons _ _ (ints_are r)
theorem call_sum {o:V} {ns:List Int} {K:V->St->Prop} (hh:c.A.handled=none) (ho:lstOf σ o=some (ns.map V.int)) (h:K (.int ns.sum) σ):CallV d c (.builtin "sum") [o] [] σ K:=cl_v fun g s r uu r1=>by
 refine elEEEAA (lstOf_rep (c:=c) ho r r1) fun b items n hq3 e z=>?_
 subst hq3
 have hi:=ints_are z
 refine elE hi.allInts.items fun ts hx=>?_
 obtain hl':s.heap.IsList b (intItems ts):=by simp only[<- hx];simpa using IsL.isList e
 refine sum_intListG hh hl' fun h' tk t' hk=>?_
 obtain e1:ns=ts.toList.map (·.1):=by
  simp only[<- nums_intItems,<- hx]
  exact (show numsOf items.toList.toArray.toList=ns from by simpa using hi.numsOf).symm
 obtain e2:preSum (numAt ts) ts.size=ns.sum:=by
  rw[preSum_eq,List.take_of_length_le (by simp),e1]
 simp only[e2]
 obtain r':=(r.grown hk tk).1;obtain k':=(r.grown hk tk).2
 exact⟨g,_,σ,r',k',.int _ _,h⟩
theorem call_isbool_int {i:Int} {K:V->St->Prop} (h:K (.bool false) σ):CallV d c (.builtin "isinstance") [.int i,.raw (.type "bool")] [] σ K:=cl_ir fun g s r t=>by
  exact PySem.IsiPair.int_bool (.tok r (.raw _) h)
theorem call_tuple {o:V} {vs:List V} {K:V->St->Prop} (ho:lstOf σ o=some vs) (hz:vs.length<=1000) (h:K (.tup vs) σ):CallV d c (.type "tuple") [o] [] σ K:=cl_v fun g s r uu r1=>by
 refine elEEE (lstOf_rep (c:=c) ho r r1) fun b items n zz41=>?_;obtain hq3:=zz41.1;obtain e:=zz41.2.1;obtain z:=zz41.2.2
 subst hq3
 refine call_tuple_list (IsL.isList e) (fun h' hk=>?_) (by simp only[szI z,sizeLine_eq];walk_at "o")
 obtain r':=(r.grown hk s.toks).1;obtain k':=(r.grown hk s.toks).2
 obtain r'':=r'.pushed { cls:=.type "tuple",data:=.seq items } .frz s.toks
 obtain k'':=(r'.chPush { cls:=.type "tuple",data:=.seq items } .frz).kp
 exact⟨gset g h'.objs.size .frz,_,σ,r'',k'.trans k'',.tup (gset_self ..) (IsT.new ..) (z.kp (k'.trans k'')),h⟩
theorem meets_bool_list (b:Addr) (items:Array Value) (n:Nat) (hz:(items.size:Int) < 2 ^ 63):Meets (Builtin.«bool.__new__» ⟨[.type "bool",.ref b],[]⟩) (fun _ R s=>IsL s.heap b items n/\∀ t,R (.ok (.ret (.bool (!items.isEmpty)))) { s with toks:=t }) :=
 Meets.of_wp fun prog w A R s ⟨e,hs⟩=>by
  obtain f1:=F.conv_sub_bool
  delta Builtin.«bool.__new__»
  refine wpAny_bind (m:=isType _) (wpAny_pure ?_)
  refine (?_:wpAny _ _ (isSubtype (.type "bool") (.type "bool") >>= _) _ _ _)
  rw[f1]
  refine wpAny_bind (wpAny_pure ?_)
  refine (?_:wpAny _ _ (someArgs "bool" 0 1 _ >>= _) _ _ _)
  refine wpAny_bind (wpAny_pure ?_)
  refine (?_:wpAny _ _ (truthy (.ref b) >>= _) _ _ _)
  refine wpAny_bind (wpAny_truthy_list (IsL.isList e) hz ?_)
  exact wpAny_pure ⟨_,rfl,hs _⟩
theorem call_bool {o:V} {vs:List V} {K:V->St->Prop} (ho:lstOf σ o=some vs) (hz:vs.length<=1000) (h:K (.bool (!vs.isEmpty)) σ):CallV d c (.type "bool") [o] [] σ K:=cl_v fun g s r uu r1=>by
 refine elEEEAA (lstOf_rep (c:=c) ho r r1) fun b items n hq3 e z=>?_
 subst hq3
 have hsz:=szI z
 refine call_bool_1 (meets_bool_list b items n (by rw[hsz];exact Y85 hz)) ⟨e,fun t=>⟨rfl,?_⟩⟩
 obtain this:(!items.isEmpty) = !vs.isEmpty:=by
  unfold Array.isEmpty
  rw[hsz];cases vs<;>rfl
 simp only[this]
 exact .tok r (.raw _) h
theorem call_set0 {K:V->St->Prop} (h:∀ a,σ.hp a=none->K (.obj a) (σ.upd a (.setI (fun _=>false) 0))):CallV d c (.type "set") [] [] σ K:=cl_0 fun g s r=>by
 refine call_set_0 fun led=>?_
 refine ⟨gset g s.heap.objs.size (.own s.heap.objs.size),.obj s.heap.objs.size,_,r.made _ (.setI (fun _=>false) 0) s.toks ?_,(r.chPush _ _).kp,.raw _,h _ r.fresh⟩
 exact⟨_,#[],0,_,Heap.get?_push_size _ rfl,⟨rfl,rfl,rfl⟩,rfl,fun e he=>by simp at he,fun k=>by simp,by decide,by rfl,rfl⟩
theorem bin_addL {a b:V} {vs ws:List V} {K:V->St->Prop} (ha:lstOf σ a=some vs) (hb:lstOf σ b=some ws) (hz:vs.length<=1000) (hz2:ws.length<=1000) (h:K (.lst (vs++ws)) σ):Bin d c .Add a b σ K:=fun g s x y r rx ry=>by
 refine elEEEAA (lstOf_rep (c:=c) ha r rx) fun b1 items n hq3 e z=>?_
 subst hq3
 refine elEEEAA (lstOf_rep (c:=c) hb r ry) fun b2 items2 n2 hq3 e2 z2=>?_
 subst hq3
 obtain h1:=szI z
 obtain h2:=szI z2
 refine concat_meets ⟨_,e,rfl⟩ ⟨_,e2,rfl⟩ noFill_list_add seq_list_add F.slot_list_add F.entry_list_add (F.args_list_add_2 _ _) (AutoSeq1.list___add___list_list_0 b1 items n b2 items2 n2 (by simp only[h1,h2,sizeLine_eq];exact Y162 hz hz2)) ⟨e,e2,?_⟩
 exact⟨gset g s.heap.objs.size .frz,_,σ,r.pushed _ .frz _,(r.chPush _ _).kp,.lst (gset_self ..) (IsL.new ..) (by simpa using (z.append z2).kp (r.chPush _ _).kp),h⟩
theorem bin_addT {vs ws:List V} {K:V->St->Prop} (hz:vs.length<=1000) (hz2:ws.length<=1000) (h:K (.tup (vs++ws)) σ):Bin d c .Add (.tup vs) (.tup ws) σ K:=fun g s x y r rx ry=>by
 have rx':=rx
 have ry':=ry
 cases rx with | @tup b1 _ items n f e z=>cases ry with | @tup b2 _ items2 n2 f2 e2 z2 =>
  have h1:=szI z
  obtain h2:=szI z2
  by_cases q1:items.isEmpty=true
  ·have hv:vs=[]:=by
    rw[Array.isEmpty_iff] at q1
    subst q1
    exact List.eq_nil_of_length_eq_zero (by simp only[<- h1];rfl)
   subst hv
   exact concat_meets ⟨_,e,rfl⟩ ⟨_,e2,rfl⟩ noFill_tuple_add seq_tuple_add F.slot_tuple_add F.entry_tuple_add (F.args_tuple_add_2 _ _) (AutoSeq1.tuple___add___tuple_tuple_0 b1 items n b2 items2 n2 q1) ⟨e,e2,.here r ry' h⟩
  ·by_cases q2:items2.isEmpty=true
   ·obtain hv:ws=[]:=by
     simp only[Array.isEmpty_iff] at q2
     subst q2
     exact List.eq_nil_of_length_eq_zero (by simp only[<- h2];rfl)
    subst hv
    simp only[List.append_nil] at h
    exact concat_meets ⟨_,e,rfl⟩ ⟨_,e2,rfl⟩ noFill_tuple_add seq_tuple_add F.slot_tuple_add F.entry_tuple_add (F.args_tuple_add_2 _ _) (AutoSeq1.tuple___add___tuple_tuple_1 b1 items n b2 items2 n2 q1 q2) ⟨e,e2,.here r rx' h⟩
   ·refine P.add_tuple e e2 q1 q2 ?_ (by simp only[h1,h2,sizeLine_eq];exact Y162 hz hz2)
    exact⟨gset g s.heap.objs.size .frz,_,σ,r.pushed _ .frz _,(r.chPush _ _).kp,.tup (gset_self ..) (IsT.new ..) (by simpa using (z.append z2).kp (r.chPush _ _).kp),h⟩
theorem bin_subB {p q:Bool} {K:V->St->Prop} (h:K (.int ((if p=true then 1 else 0) - if q=true then 1 else 0)) σ):Bin d c .Sub (.bool p) (.bool q) σ K:=iv_rr fun g s r=>by
 exact PyProof.Rows.sub_bool (.tok r (.int _ _) h)
noncomputable def noneIs:V->Option Bool
 | .raw x=>if plainIs x Value.none=true then some (x == Value.none) else none
 | _=>some false
theorem none_rep {g:Gh} {h:Heap} {v:V} {b:Bool} {x:Value} (e:noneIs v=some b) (r:RepV g h v x):plainIs x Value.none=true/\(x == Value.none)=b:=by
 cases r with
 | raw _ =>
  by_cases q:plainIs x Value.none=true
  ·exact⟨q,Option.some.inj ((if_pos q).symm.trans e)⟩
  ·exact nomatch (if_neg q).symm.trans e
 | _=>exact⟨rfl,Option.some.inj e⟩
theorem cmp_isNotNone {v:V} {b:Bool} {K:V->St->Prop} (e:noneIs v=some b) (h:K (.bool (!b)) σ):Cmp d c .IsNot v .none σ K:=iv_vr fun g s r x rx =>
 elA (none_rep e rx) fun e1 e2=>wpAny_isNot_plain e1 (.here r (.raw _) (by rw[e2];exact h))
theorem cmp_isNone {v:V} {b:Bool} {K:V->St->Prop} (e:noneIs v=some b) (h:K (.bool b) σ):Cmp d c .Is v .none σ K:=iv_vr fun g s r x rx =>
 elA (none_rep e rx) fun e1 e2=>wpAny_is_plain e1 (.here r (.raw _) (by rw[e2];exact h))
noncomputable def dataOf (σ:St) (v:V):Option PyData:=match lstOf σ v with
 | some vs=>(datas vs).map .list
 | none=>v.data
theorem dataOf_reads {g:Gh} {s:Shared} {v:V} {x:Value} {p:PyData} (e:dataOf σ v=some p) (r:Rep d g c.A c.env σ s) (rx:RepV g s.heap v x):p.canLay0=true/\∃ as,Reads s.heap x p as:=by
 unfold dataOf at e
 split at e
 ·rename_i vs q
  refine elEA (Option.map_eq_some_iff.mp e) fun ps e1 hq2=>?_
  subst hq2
  refine elEEEAA (lstOf_rep (c:=c) q r rx) fun b items n hq3 e2 z=>?_
  subst hq3
  refine elAE (datas_reads z e1) fun l as z'=>?_
  exact⟨by simpa [PyData.canLay0] using l,_,.list e2 rfl rfl z'⟩
 ·exact data_reads rx e
theorem cmp_neS {a b:V} {p q:PyData} {K:V->St->Prop} (ha:dataOf σ a=some p) (hb:dataOf σ b=some q) (hd:p.depth<=100) (R:Rm c.A 0) (h:K (.bool (!PyData.eqv p q)) σ):Cmp d c .NotEq a b σ K:=fun g s x y r rx ry=>by
 refine elAE (dataOf_reads (c:=c) ha r rx) fun l1 as z1=>?_
 refine elAE (dataOf_reads (c:=c) hb r ry) fun l2 bs z2=>?_
 exact SeqAt.compareNe_reads z1 z2 l1 l2 (by obtain this:=R.lt;obtain this:=Nat.min_le_left p.depth q.depth;omega) (.here r (.raw _) h)
theorem cmp_inS' {a l:V} {vs:List V} {p:PyData} {qs:List PyData} {K:V->St->Prop} (ha:dataOf σ a=some p) (hl:lstOf σ l=some vs) (hb:datas vs=some qs) (hd:p.depth<=100) (R:Rm c.A 0) (h:K (.bool (qs.any fun y=>PyData.eqv y p)) σ):Cmp d c .In a l σ K:=fun g s x y r rx ry=>by
 refine elAE (dataOf_reads (c:=c) ha r rx) fun l1 as z1=>?_
 refine elAE (dataOf_reads (c:=c) (p:=.list qs) (by delta dataOf;simp only[hl];simp[hb]) r ry) fun l2 bs z2=>?_
 exact SeqAt.in_list_reads z2 z1 (by simpa [PyData.canLay0] using l2) l1 (by obtain this:=R.lt;obtain this:=Nat.min_le_right (PyData.depthAll qs) p.depth;omega) (.here r (.raw _) h)
theorem sliceApplied_back2 {A:Around} {E:Value->Shared->Prop} {s:Shared} {sl:Addr} {vl vu vk:Value} {Q:Int×Int×Nat->Shared->Prop} (hs:s.heap.IsSliceOf sl vl vu vk) (pl:IsPart vl none) (pu:IsPart vu none) (pk:IsPart vk (some (-1))) (h:Q (1,-1,2) s) :
  wpAny (model d.prog d.w) A (Builtin.Slice.sliceApplied (.ref sl) (pure (2:Int))) Q E s:=by
 cases pl;cases pu;cases pk with | int _ u =>
 refine elE (id hs) fun os zz160=>?_;obtain hos:=zz160.1;obtain hcs:=zz160.2.1;obtain hds:=zz160.2.2
 delta Builtin.Slice.sliceApplied Builtin.Slice.sliceFields
 refine wpAny_bind (wpAny_bind (wpAny_field hos hds (x:=.none) rfl (wpAny_bind (wpAny_field hos hds (x:=.none) rfl (wpAny_bind (wpAny_field hos hds (x:=.int (-1) u) rfl (wpAny_pure ?_)))))))
 refine wpAny_bind (slicePart_int ?_)
 refine (?_:wpAny _ _ (if ((-1:Int) == 0)=true then _ else _) _ _ s)
 rw[if_neg (by decide)]
 refine wpAny_bind (slicePart_none (wpAny_bind (slicePart_none (wpAny_bind (wpAny_pure ?_)))))
 exact wpAny_pure h
theorem getItem_tup_back2 {A:Around} {E:Value->Shared->Prop} {s:Shared} {t sl:Addr} {x y:Value} {n:Nat} {vl vu vk:Value} {Q:Value->Shared->Prop} (ht:IsT s.heap t #[x,y] n) (hs:s.heap.IsSliceOf sl vl vu vk) (pl:IsPart vl none) (pu:IsPart vu none) (pk:IsPart vk (some (-1)))
  (h:Q (.ref s.heap.objs.size) { s with heap:=s.heap.push { cls:=.type "tuple",data:=.seq #[y,x] } }):wpAny (model d.prog d.w) A (getItem (.ref t) (.ref sl)) Q E s:=by
 obtain hT:IsTup s.heap t #[x,y]:=⟨_,ht,rfl,n,rfl⟩
 obtain hcut:sizeOk (.seq #[y,x]):=by
  refine (?_:(#[y,x]:Array Value).size<=sizeLine)
  simp only[sizeLine_eq];simp
 refine elE (id hs) fun os zz174=>?_;obtain hos:=zz174.1;obtain hcs:=zz174.2.1;obtain hds:=zz174.2.2
 obtain hTs:s.TypeIs (.ref sl) "slice":=⟨os,hos,hcs⟩
 delta getItem
 try with_reducible refine wpAny_holding ?_
 first | refine wpAny_bind (wpAny_pure ?_) | skip
 refine wpAny_bind (wpAny_sequenceKey hT.typeIs (by decide) ?_)
 refine wpAny_bind (wpAny_callSpecial?_slot (name:=Str.ofString "__getitem__") hT.typeIs slot_tuple_getitem
  (wpAny_call_entry slot_tuple_getitem hT.typeIs entry_tuple_getitem ?_ (args_tuple_getitem _ _)))
 refine (?_:wpAny _ _ (Builtin.Tuple.tupleItemsOf (.ref t) >>= _) _ _ s)
 refine wpAny_bind (tupleItemsOf_ hT ?_)
 refine wpAny_bind (wpAny_typeOf hTs ?_)
 rw[if_pos (by decide)]
 refine wpAny_bind (sliceApplied_back2 hs pl pu pk ?_)
 refine (?_:wpAny _ _ (if ((1:Int) == 0&&(-1:Int) == 1&&(2:Nat) == (#[x,y]:Array Value).size)=true then _ else _) _ _ s)
 rw[if_neg (by simp)]
 first
  | exact wpAny_bind (m:=Builtin.Tuple.tupleExact _) (wpAny_newObj_type (wpAny_pure ⟨_,rfl,wpAny_pure h⟩) hcut)
  | exact wpAny_bind (m:=Builtin.Tuple.tupleExact _) (wpAny_newObj_type (wpAny_bind (wpAny_pure (wpAny_pure ⟨_,rfl,wpAny_pure h⟩))) hcut)
theorem sub_back2 {value slice:Expr} {u v:V} {K:V->St->Prop} (h:K (.tup [v,u]) σ):Sub d c value slice (.tup [u,v]) (.sl none none (some (-1))) σ K:=iv_tS fun g s r a items n f e z uu uu uu uu f' q pl pu pk=>by
  obtain⟨its⟩:=items
  refine elEEAA z.c2 fun cu cv ei ra rb=>?_
  have ei:its=[cu,cv]:=ei
  rw[ei] at e
  ·
    refine sub_ops (T:="tuple") ⟨_,e,rfl⟩ slot_tuple_getitem.lookup (getItem_tup_back2 e q pl pu pk ?_)
    obtain k:=(r.chPush { cls:=.type "tuple",data:=.seq #[cv,cu] } .frz).kp
    exact⟨gset g s.heap.objs.size .frz,_,σ,r.pushed _ .frz s.toks,k,.tup (gset_self ..) (IsT.new ..) (.cons (rb.kp k) (.cons (ra.kp k) .nil)),h⟩
end
section
variable {d:Wd} {c:Cx} {σ:St}
theorem look_hdS {k:Str} {v:V} {r:List (Str×V)}:look k ((k,v)::r)=some v:=look_hd
theorem look_tlS {k k':Str} {v' v:V} {r:List (Str×V)} (h:decide (k'=k)=false) (e:look k r=some v):look k ((k',v')::r)=some v:=look_tl h e
theorem put_nilS {k:Str} {v:V}:put k v []=[(k,v)]:=rfl
theorem put_hdS {k:Str} {v v':V} {r:List (Str×V)}:put k v ((k,v')::r)=(k,v)::r:=put_hd
theorem put_tlS {k k':Str} {v' v:V} {r r':List (Str×V)} (h:decide (k'=k)=false) (e:put k v r=r'):put k v ((k',v')::r)=(k',v')::r':=put_tl h e
theorem A_loc {x:Str} {pos:Pos} {v:V} {l l':List (Str×V)} {hp:Addr->Option AO} {K:Unit->St->Prop} (hl:c.env.kindOf x=some .local) (e:put x v l=l') (h:K () ⟨lk l',hp⟩):Asg d c (.Name x pos) v ⟨lk l,hp⟩ K :=
 A_local (by rw[set_lk,e];exact h) hl
theorem A_cel {x:Str} {pos:Pos} {v:V} {l l':List (Str×V)} {hp:Addr->Option AO} {K:Unit->St->Prop} (hl:c.env.kindOf x=some .cell) (hf:c.env.func.isSome=true) (hc:(c.env.cells.lookup x).isSome=true) (e:put x v l=l') (h:K () ⟨lk l',hp⟩):Asg d c (.Name x pos) v ⟨lk l,hp⟩ K :=
 A_cell (by rw[set_lk,e];exact h) hl hf hc
theorem W_loc {x:Str} {pos:Pos} {v:V} {l:List (Str×V)} {hp:Addr->Option AO} {K:V->St->Prop} (hl:c.env.kindOf x=some .local) (e:look x l=some v) (hd:(x == ("__debug__":Str))=false) (h:K v ⟨lk l,hp⟩):W d c (.Name x pos) ⟨lk l,hp⟩ K:=W_local e h hl hd
theorem W_cel {x:Str} {pos:Pos} {v:V} {l:List (Str×V)} {hp:Addr->Option AO} {K:V->St->Prop} (hl:c.env.kindOf x=some .cell) (e:look x l=some v) (hd:(x == ("__debug__":Str))=false) (h:K v ⟨lk l,hp⟩):W d c (.Name x pos) ⟨lk l,hp⟩ K:=W_cell e h hl hd
theorem W_globI {x:Str} {pos:Pos} {i:Int} {t:Tok} {K:V->St->Prop} (e:nsIn d.K mainGlobals x=some (some (.int i t))) (h:K (.int i) σ) (hx:c.env.kindOf x=some .globalImplicit) (hd:(x == ("__debug__":Str))=false):W d c (.Name x pos) σ K:=fun g s r=>by
 refine elE r.fr0 fun m F=>?_
 exact nameG_K F r.ok.inK r.ok.top e (.here r (.int i t) h) r.fr.glob r.fr.fn hx hd
theorem rep_zip {g:Gh} {h:Heap} {names:List Str} {vs:List V} {xs:List Value} (r:RepVs g h vs xs):RepKV g h (names.zip vs) (names.zip xs) :=
 r.ind (P:=fun vs xs=>∀ names:List Str,RepKV g h (names.zip vs) (names.zip xs)) (fun names=>by simp only[List.zip_nil_right,List.zip_nil_right];exact .nil) (fun a _ ih names=>match names with
  | []=>.nil
  | _::n=>.cons a (ih n)) names
theorem bind_plain {fd:FuncData} {vs:List V} {names:List Str} (hn:names.length=vs.length) (h:∀ xs:List Value,xs.length=names.length->bindArgs fd ⟨xs,[]⟩=pure (names.zip xs)):BindV d c fd vs [] (names.zip vs) σ:=fun g s xs ys r rv rk Q E hQ=>by
 obtain hy:ys=[]:=by cases rk;rfl
 subst hy
 refine (?_:wpAny _ _ (bindArgs fd ⟨xs,[]⟩) Q E s)
 rw[h xs (by rw[<- rv.length];exact hn.symm)]
 exact wpAny_pure (hQ g s _ r (Kp.refl ..) (rep_zip rv))
theorem W_Flags {pos:Pos} {K:V->St->Prop} (hx:c.env.kindOf (Str.ofString "Flags")=some .globalImplicit) (h:K (.raw (.ref 73)) σ):W d c (.Name (Str.ofString "Flags") pos) σ K:=W_glob (by kernel_rfl!) h hx (by kernel_rfl!)
theorem W_TopologicalSorter {pos:Pos} {K:V->St->Prop} (hx:c.env.kindOf (Str.ofString "TopologicalSorter")=some .globalImplicit) (h:K (.raw (.ref 193)) σ):W d c (.Name (Str.ofString "TopologicalSorter") pos) σ K:=W_glob (by kernel_rfl!) h hx (by kernel_rfl!)
theorem W_NodeInfo {pos:Pos} {K:V->St->Prop} (hx:c.env.kindOf (Str.ofString "_NodeInfo")=some .globalImplicit) (h:K (.raw (.ref 96)) σ):W d c (.Name (Str.ofString "_NodeInfo") pos) σ K:=W_glob (by kernel_rfl!) h hx (by kernel_rfl!)
theorem W_sorted_list_difference {pos:Pos} {K:V->St->Prop} (hx:c.env.kindOf (Str.ofString "sorted_list_difference")=some .globalImplicit) (h:K (.raw (.ref 204)) σ):W d c (.Name (Str.ofString "sorted_list_difference") pos) σ K:=W_glob (by kernel_rfl!) h hx (by kernel_rfl!)
theorem W_three_way_cmp {pos:Pos} {K:V->St->Prop} (hx:c.env.kindOf (Str.ofString "three_way_cmp")=some .globalImplicit) (h:K (.raw (.ref 211)) σ):W d c (.Name (Str.ofString "three_way_cmp") pos) σ K:=W_glob (by kernel_rfl!) h hx (by kernel_rfl!)
theorem W_law_board {pos:Pos} {K:V->St->Prop} (hx:c.env.kindOf (Str.ofString "_law_board")=some .globalImplicit) (h:K (.raw (.ref 216)) σ):W d c (.Name (Str.ofString "_law_board") pos) σ K:=W_glob (by kernel_rfl!) h hx (by kernel_rfl!)
theorem W_law_mine {pos:Pos} {K:V->St->Prop} (hx:c.env.kindOf (Str.ofString "_law_mine")=some .globalImplicit) (h:K (.raw (.ref 221)) σ):W d c (.Name (Str.ofString "_law_mine") pos) σ K:=W_glob (by kernel_rfl!) h hx (by kernel_rfl!)
theorem W_law_play {pos:Pos} {K:V->St->Prop} (hx:c.env.kindOf (Str.ofString "_law_play")=some .globalImplicit) (h:K (.raw (.ref 226)) σ):W d c (.Name (Str.ofString "_law_play") pos) σ K:=W_glob (by kernel_rfl!) h hx (by kernel_rfl!)
theorem W_law_book {pos:Pos} {K:V->St->Prop} (hx:c.env.kindOf (Str.ofString "_law_book")=some .globalImplicit) (h:K (.raw (.ref 231)) σ):W d c (.Name (Str.ofString "_law_book") pos) σ K:=W_glob (by kernel_rfl!) h hx (by kernel_rfl!)
theorem W_law_closed {pos:Pos} {K:V->St->Prop} (hx:c.env.kindOf (Str.ofString "_law_closed")=some .globalImplicit) (h:K (.raw (.ref 236)) σ):W d c (.Name (Str.ofString "_law_closed") pos) σ K:=W_glob (by kernel_rfl!) h hx (by kernel_rfl!)
theorem W_law_worth {pos:Pos} {K:V->St->Prop} (hx:c.env.kindOf (Str.ofString "_law_worth")=some .globalImplicit) (h:K (.raw (.ref 243)) σ):W d c (.Name (Str.ofString "_law_worth") pos) σ K:=W_glob (by kernel_rfl!) h hx (by kernel_rfl!)
theorem W_law_settled {pos:Pos} {K:V->St->Prop} (hx:c.env.kindOf (Str.ofString "_law_settled")=some .globalImplicit) (h:K (.raw (.ref 248)) σ):W d c (.Name (Str.ofString "_law_settled") pos) σ K:=W_glob (by kernel_rfl!) h hx (by kernel_rfl!)
theorem W_b_len {pos:Pos} {K:V->St->Prop} (hx:c.env.kindOf (Str.ofString "len")=some .globalImplicit) (h:K (.raw (.builtin "len")) σ):W d c (.Name (Str.ofString "len") pos) σ K:=W_bltn (by kernel_rfl!) (by kernel_rfl!) (by decide +kernel) h hx (by kernel_rfl!)
theorem W_b_range {pos:Pos} {K:V->St->Prop} (hx:c.env.kindOf (Str.ofString "range")=some .globalImplicit) (h:K (.raw (.type "range")) σ):W d c (.Name (Str.ofString "range") pos) σ K:=W_bltn (by kernel_rfl!) (by kernel_rfl!) (by decide +kernel) h hx (by kernel_rfl!)
theorem W_b_sorted {pos:Pos} {K:V->St->Prop} (hx:c.env.kindOf (Str.ofString "sorted")=some .globalImplicit) (h:K (.raw (.builtin "sorted")) σ):W d c (.Name (Str.ofString "sorted") pos) σ K:=W_bltn (by kernel_rfl!) (by kernel_rfl!) (by decide +kernel) h hx (by kernel_rfl!)
theorem W_b_sum {pos:Pos} {K:V->St->Prop} (hx:c.env.kindOf (Str.ofString "sum")=some .globalImplicit) (h:K (.raw (.builtin "sum")) σ):W d c (.Name (Str.ofString "sum") pos) σ K:=W_bltn (by kernel_rfl!) (by kernel_rfl!) (by decide +kernel) h hx (by kernel_rfl!)
theorem W_b_isinstance {pos:Pos} {K:V->St->Prop} (hx:c.env.kindOf (Str.ofString "isinstance")=some .globalImplicit) (h:K (.raw (.builtin "isinstance")) σ):W d c (.Name (Str.ofString "isinstance") pos) σ K:=W_bltn (by kernel_rfl!) (by kernel_rfl!) (by decide +kernel) h hx (by kernel_rfl!)
theorem W_b_bool {pos:Pos} {K:V->St->Prop} (hx:c.env.kindOf (Str.ofString "bool")=some .globalImplicit) (h:K (.raw (.type "bool")) σ):W d c (.Name (Str.ofString "bool") pos) σ K:=W_bltn (by kernel_rfl!) (by kernel_rfl!) (by decide +kernel) h hx (by kernel_rfl!)
theorem W_b_tuple {pos:Pos} {K:V->St->Prop} (hx:c.env.kindOf (Str.ofString "tuple")=some .globalImplicit) (h:K (.raw (.type "tuple")) σ):W d c (.Name (Str.ofString "tuple") pos) σ K:=W_bltn (by kernel_rfl!) (by kernel_rfl!) (by decide +kernel) h hx (by kernel_rfl!)
theorem W_b_set {pos:Pos} {K:V->St->Prop} (hx:c.env.kindOf (Str.ofString "set")=some .globalImplicit) (h:K (.raw (.type "set")) σ):W d c (.Name (Str.ofString "set") pos) σ K:=W_bltn (by kernel_rfl!) (by kernel_rfl!) (by decide +kernel) h hx (by kernel_rfl!)
theorem W_b_iter {pos:Pos} {K:V->St->Prop} (hx:c.env.kindOf (Str.ofString "iter")=some .globalImplicit) (h:K (.raw (.builtin "iter")) σ):W d c (.Name (Str.ofString "iter") pos) σ K:=W_bltn (by kernel_rfl!) (by kernel_rfl!) (by decide +kernel) h hx (by kernel_rfl!)
theorem W_NODE_OUT {pos:Pos} {K:V->St->Prop} (hx:c.env.kindOf (Str.ofString "_NODE_OUT")=some .globalImplicit) (h:K (.int (-1)) σ):W d c (.Name (Str.ofString "_NODE_OUT") pos) σ K:=W_globI (t:=287) (by kernel_rfl!) h hx (by kernel_rfl!)
theorem W_NODE_DONE {pos:Pos} {K:V->St->Prop} (hx:c.env.kindOf (Str.ofString "_NODE_DONE")=some .globalImplicit) (h:K (.int (-2)) σ):W d c (.Name (Str.ofString "_NODE_DONE") pos) σ K:=W_globI (t:=290) (by kernel_rfl!) h hx (by kernel_rfl!)
theorem WP_none {K:Option Int->St->Prop} (h:K none σ):WP d c none σ K:=h
theorem WP_some {e:Expr} {K:Option Int->St->Prop} (h:W d c e σ (PInt K)):WP d c (some e) σ K:=h
noncomputable abbrev Key:=List (Fin 4)
noncomputable def nmS (a:Fin 4):Str:=if a=0 then ofS "" else if a=1 then ofS "flags" else if a=2 then ofS "nested" else ofS "recursive_flags"
theorem nmS_inj:∀ a b:Fin 4,decide (nmS a=nmS b)=decide (a=b):=by decide +kernel
theorem nmS_ok:∀ a:Fin 4,PyData.strOk (nmS a)=true:=by decide +kernel
noncomputable abbrev nV (a:Fin 4):V:=.str (nmS a)
noncomputable abbrev kV (k:Key):V:=.tup (k.map nV)
noncomputable def nD (a:Fin 4):PyData:=.str (nmS a)
noncomputable def kD (k:Key):PyData:=.tuple (k.map nD)
theorem nV_data (a:Fin 4):(nV a).data=some (nD a):=by simp only[V.data,nmS_ok,if_true,nD]
theorem datas_of {α:Type} {f:α->V} {g:α->PyData} (h:∀ a,(f a).data=some (g a)):∀ l:List α,datas (l.map f)=some (l.map g)
 | []=>rfl
 | a::l=>by simp only[List.map_cons,datas,h a,datas_of h l]
theorem kV_data (k:Key):(kV k).data=some (kD k):=by simp only[V.data,datas_of nV_data,Option.map_some,kD]
theorem eqv_nD (a b:Fin 4):PyData.eqv (nD a) (nD b)=decide (a=b):=by
 unfold nD PyData.eqv
 rw[<- nmS_inj];rfl
theorem eqvAll_of {α:Type} [DecidableEq α] {g:α->PyData} (h:∀ a b,PyData.eqv (g a) (g b)=decide (a=b)):∀ l m:List α,PyData.eqvAll (l.map g) (m.map g)=decide (l=m)
 | [],[]=>by simp[PyData.eqvAll]
 | [],_::_=>by simp[PyData.eqvAll]
 | _::_,[]=>by simp[PyData.eqvAll]
 | a::l,b::m=>by simp[PyData.eqvAll,h a b,eqvAll_of h l m]
theorem eqv_kD (a b:Key):PyData.eqv (kD a) (kD b)=decide (a=b):=by
 unfold kD;simp only[PyData.eqv];exact eqvAll_of eqv_nD a b
theorem eqv_ksD (a b:List Key):PyData.eqv (.list (a.map kD)) (.list (b.map kD))=decide (a=b):=by simp only[PyData.eqv];exact eqvAll_of eqv_kD a b
theorem depthAll_le {α:Type} {g:α->PyData} {n:Nat} (h:∀ a,(g a).depth<=n):∀ l:List α,PyData.depthAll (l.map g)<=n
 | []=>Nat.zero_le _
 | a::l=>by simp only[List.map_cons,PyData.depthAll];exact Nat.max_le.mpr ⟨h a,depthAll_le h l⟩
theorem depth_kD (k:Key):(kD k).depth<=1:=by
 unfold kD PyData.depth
 obtain this:=depthAll_le (g:=nD) (n:=0) (fun a=>Nat.le_refl _) k
 exact Y71 this
theorem depth_ksD (k:List Key):(PyData.list (k.map kD)).depth<=2:=by
 unfold PyData.depth
 obtain this:=depthAll_le (g:=kD) depth_kD k
 exact Y74 this
noncomputable abbrev ksV (ks:List Key):V:=.lst (ks.map kV)
theorem ksV_data (ks:List Key):(ksV ks).data=some (.list (ks.map kD)):=by simp only[V.data,datas_of kV_data,Option.map_some]
theorem cmp_eqK {a b:Key} {K:V->St->Prop} (R:Rm c.A 0) (h:K (.bool (decide (a=b))) σ):Cmp d c .Eq (kV a) (kV b) σ K:=cmp_eqD (kV_data a) (kV_data b) (Nat.le_trans (depth_kD a) (by walk_at "o")) R (by rw[eqv_kD];exact h)
theorem cmp_neK {a b:Key} {K:V->St->Prop} (R:Rm c.A 0) (h:K (.bool (!decide (a=b))) σ):Cmp d c .NotEq (kV a) (kV b) σ K:=cmp_neD (kV_data a) (kV_data b) (Nat.le_trans (depth_kD a) Y6) R (by rw[eqv_kD];exact h)
theorem any_key (ks:List Key) (k:Key):((ks.map kD).any fun y=>PyData.eqv y (kD k))=decide (k∈ks):=by
 induction ks with
 | nil=>simp
 | cons a l ih =>
  simp only[List.map_cons,List.any_cons,ih,eqv_kD,List.mem_cons]
  by_cases h:a=k
  ·simp[h]
  ·obtain this:¬ k=a:=fun e=>h e.symm
   simp[h,this]
theorem cmp_inK {a:Key} {ks:List Key} {K:V->St->Prop} (R:Rm c.A 0) (h:K (.bool (decide (a∈ks))) σ):Cmp d c .In (kV a) (ksV ks) σ K:=cmp_inD (kV_data a) (datas_of kV_data ks) (Nat.le_trans (depth_kD a) Y6) R (by rw[any_key];exact h)
theorem cmp_neKs {a b:List Key} {K:V->St->Prop} (R:Rm c.A 0) (h:K (.bool (!decide (a=b))) σ):Cmp d c .NotEq (ksV a) (ksV b) σ K:=cmp_neD (ksV_data a) (ksV_data b) (Nat.le_trans (depth_ksD a) (by walk_at "o")) R (by rw[eqv_ksD];exact h)
theorem cmp_eqKs {a b:List Key} {K:V->St->Prop} (R:Rm c.A 0) (h:K (.bool (decide (a=b))) σ):Cmp d c .Eq (ksV a) (ksV b) σ K:=cmp_eqD (ksV_data a) (ksV_data b) (Nat.le_trans (depth_ksD a) Y9) R (by rw[eqv_ksD];exact h)
structure Bd where
 keys:List Key
 m1:List Key
 m2:List Key
noncomputable def bV (b:Bd):V:=.lst [ksV b.keys,ksV b.m1,ksV b.m2]
noncomputable def LocIn (loc:Str->Option V):List (Str×V)->Prop
 | []=>True
 | (x,v)::r=>loc x=some v/\LocIn loc r
theorem LocIn.mem {loc:Str->Option V}:∀ {l:List (Str×V)},LocIn loc l->∀ kv∈l,loc kv.1=some kv.2
 | [],_,_,h=>nomatch h
 | (x,v)::_,h,kv,hm=>by
  rcases List.mem_cons.mp hm with rfl | hm
  ·exact h.1
  ·exact LocIn.mem h.2 kv hm
noncomputable def scopeOk (scope:Scope) (env:Env):Bool:=scope.names.all fun y=>y.2 != .cell&&(y.2 != .local||scope.names.lookup y.1 == some .local)&&(y.2 != .free||(env.cells.lookup y.1).isSome)
theorem scopeOk_all {scope:Scope} {env:Env} (h:scopeOk scope env=true):(∀ y∈scope.names,y.2 ≠ .cell)/\(∀ y∈scope.names,y.2 = .local->scope.names.lookup y.1=some .local)/\scope.names.all (fun nk=>nk.2 != .free||(env.cells.lookup nk.1).isSome)=true:=by
 obtain q:=List.all_eq_true.mp h
 refine ⟨fun y hy e=>?_,fun y hy e=>?_,List.all_eq_true.mpr fun y hy=>?_⟩
 ·obtain this:=q y hy;simp only[Bool.and_eq_true,bne_iff_ne] at this;exact this.1.1 e
 ·obtain this:=q y hy;simp only[Bool.and_eq_true,Bool.or_eq_true,bne_iff_ne,beq_iff_eq] at this;exact this.1.2.resolve_left fun z=>z e
 ·obtain this:=q y hy;simp only[Bool.and_eq_true] at this;exact this.2
theorem compOk {scope:Scope} {l:List (Str×V)} {σ:St} (h2:c.A.handled=none) (h1:c.env.func.isSome=true) (h3:scope.kind = .function) (h4:scopeOk scope c.env=true)
  (h5:(l.map (·.1)).all (fun x=>(relabel scope c.env).names.lookup x == some .cell&&c.env.kindOf x == some .cell&&((clOf scope c.env).lookup x).isSome)=true) (h6:LocIn σ.loc l):CompOk c scope l σ:=by
 obtain a1:=(scopeOk_all h4).1;obtain a2:=(scopeOk_all h4).2.1;obtain a3:=(scopeOk_all h4).2.2
 refine ⟨h1,h2,h3,a1,a2,a3,fun kv hm=>?_⟩
 obtain this:=List.all_eq_true.mp h5 kv.1 (List.mem_map_of_mem hm)
 simp only[Bool.and_eq_true,beq_iff_eq] at this
 exact⟨this.1.1,this.1.2,this.2,h6.mem kv hm⟩
theorem W_Cmp (fz:Bool) {elt target iter:Expr} {ifs:List Expr} {scope:Scope} {pos:Pos} {l:List (Str×V)} {K:V->St->Prop}
  (hk:scope.kind = .function) (hsc:scopeOk scope c.env=true)
  (h:W d c iter σ fun xv σ1=>∃ xs side,PyIter d c xv σ1 xs side/\xs.length<=1000/\CompOk c scope l σ1/\∀ C,CompRun d (cxC c scope C) target ifs elt side (compK fz σ1.loc K) xs [] ⟨lk l,σ1.hp⟩)
  (hs:∀ x,foldedSetIterable iter c.env x=pure x:=by intro _;rfl) (ht:∀ it v,letOwnedTupleGo target it v=pure ():=by intro _ _;rfl):W d c (.ListComp elt [⟨target,iter,ifs,0⟩] scope pos) σ K :=
 W_CompG fz h hk (scopeOk_all hsc).2.1 (scopeOk_all hsc).2.2 hs ht
theorem WS_Cmp (fz:Bool) {elt target iter:Expr} {ifs:List Expr} {scope:Scope} {y:Str} {py pos spos:Pos} {l:List (Str×V)} {K:Fl->St->Prop}
  (hsw:swapsWith (.ListComp elt [⟨target,iter,ifs,0⟩] scope pos) (some (.Name y py)) spos.line c.env=pure true) (hk:scope.kind = .function) (hsc:scopeOk scope c.env=true)
  (h:W d c iter σ fun xv σ1=>∃ xs side,PyIter d c xv σ1 xs side/\xs.length<=1000/\CompOk c scope l σ1/\∀ C,CompRun d (cxC c scope C) target ifs elt side (compK fz σ1.loc fun v L8=>Asg d c (.Name y py) v L8 fun _ σ3=>K .next σ3) xs [] ⟨lk l,σ1.hp⟩)
  (hs:∀ x,foldedSetIterable iter c.env x=pure x:=by intro _;rfl) (ht:∀ it v,letOwnedTupleGo target it v=pure ():=by intro _ _;rfl):WS d c (.Assign [.Name y py] (.ListComp elt [⟨target,iter,ifs,0⟩] scope pos) spos) σ K :=
 WS_AssignCompG fz hsw h hk (scopeOk_all hsc).2.1 (scopeOk_all hsc).2.2 hs ht
noncomputable def cmpChk (c:Cx) (scope:Scope) (ns:List Str):Bool:=c.env.func.isSome&&(scope.kind == .function&&(scopeOk scope c.env&&ns.all fun x=>(relabel scope c.env).names.lookup x == some .cell&&c.env.kindOf x == some .cell&&((clOf scope c.env).lookup x).isSome))
theorem cmpChk_ok {scope:Scope} {l:List (Str×V)} (h:cmpChk c scope (l.map (·.1))=true) (hh:c.A.handled=none):scope.kind = .function/\scopeOk scope c.env=true/\∀ σ:St,LocIn σ.loc l->CompOk c scope l σ :=
 elA (Bool.and_eq_true_iff.mp h) fun h1 h=>elA (Bool.and_eq_true_iff.mp h) fun h2 h=>elA (Bool.and_eq_true_iff.mp h) fun h3 h4=>⟨eq_of_beq h2,h3,fun σ h6=>compOk hh h1 (eq_of_beq h2) h3 h4 h6⟩
theorem W_Cmp2 (fz:Bool) {elt target iter:Expr} {ifs:List Expr} {scope:Scope} {pos:Pos} {l:List (Str×V)} {K:V->St->Prop} (hc:cmpChk c scope (l.map (·.1))=true) (hh:c.A.handled=none)
  (h:W d c iter σ fun xv σ1=>∃ xs side,PyIter d c xv σ1 xs side/\xs.length<=1000/\LocIn σ1.loc l/\∀ C,CompRun d (cxC c scope C) target ifs elt side (compK fz σ1.loc K) xs [] ⟨lk l,σ1.hp⟩)
  (hs:∀ x,foldedSetIterable iter c.env x=pure x:=by intro _;rfl) (ht:∀ it v,letOwnedTupleGo target it v=pure ():=by intro _ _;rfl):W d c (.ListComp elt [⟨target,iter,ifs,0⟩] scope pos) σ K :=
 elAA (cmpChk_ok hc hh) fun a1 a2 a3=>W_Cmp fz a1 a2 (Ev.mono h fun xv σ1 zk=>elEEAAA zk fun xs side z1 z2 z3 z4=>⟨xs,side,z1,z2,a3 _ z3,z4⟩) hs ht
theorem WS_Cmp2 (fz:Bool) {elt target iter:Expr} {ifs:List Expr} {scope:Scope} {y:Str} {py pos spos:Pos} {l:List (Str×V)} {K:Fl->St->Prop} (hc:(c.env.blockKind == .function&&c.env.kindOf y == some .local&&py.line == pos.line && !(scope.names.any fun (n,k)=>n == y&&(k == .local||k == .cell))&&cmpChk c scope (l.map (·.1)))=true) (hh:c.A.handled=none)
  (h:W d c iter σ fun xv σ1=>∃ xs side,PyIter d c xv σ1 xs side/\xs.length<=1000/\LocIn σ1.loc l/\∀ C,CompRun d (cxC c scope C) target ifs elt side (compK fz σ1.loc fun v L8=>Asg d c (.Name y py) v L8 fun _ σ3=>K .next σ3) xs [] ⟨lk l,σ1.hp⟩)
  (hs:∀ x,foldedSetIterable iter c.env x=pure x:=by intro _;rfl) (ht:∀ it v,letOwnedTupleGo target it v=pure ():=by intro _ _;rfl):WS d c (.Assign [.Name y py] (.ListComp elt [⟨target,iter,ifs,0⟩] scope pos) spos) σ K :=
 elA (Bool.and_eq_true_iff.mp hc) fun h0 hc=>elAA (cmpChk_ok hc hh) fun a1 a2 a3=>WS_Cmp fz (congrArg pure h0) a1 a2 (Ev.mono h fun xv σ1 zk=>elEEAAA zk fun xs side z1 z2 z3 z4=>⟨xs,side,z1,z2,a3 _ z3,z4⟩) hs ht
theorem comp_pure {c:Cx} {x:Str} {xp:Pos} {ifs:List Expr} {elt:Expr} {side:(Addr->Option AO)->Prop} {K:List V->(Addr->Option AO)->Prop} {α:Type} {f e:α->V} {p:α->Bool} {l:List (Str×V)} {hp:Addr->Option AO} (L:V->List (Str×V))
  (hx:c.env.kindOf x=some .local) (h0:∀ v,put x v l=L v) (h1:∀ u v,put x v (L u)=L v) (hs:side hp)
  (as:List α) (turn:∀ a∈as,WIf d c ifs ⟨lk (L (f a)),hp⟩ fun ok σ'=>ok=p a/\σ'=⟨lk (L (f a)),hp⟩)
  (el:∀ a∈as,p a=true->W d c elt ⟨lk (L (f a)),hp⟩ fun v σ'=>v=e a/\σ'=⟨lk (L (f a)),hp⟩)
  (acc:List V) (h:K (acc++(as.filter p).map e) hp):CompRun d c (.Name x xp) ifs elt side K (as.map f) acc ⟨lk l,hp⟩:=by
 obtain wif:∀ (ifs:List Expr) (σ:St) (P Q:Bool->St->Prop),(∀ b s,P b s->Q b s)->WIf d c ifs σ P->WIf d c ifs σ Q:=fun ifs σ P Q h w=>by
  match ifs,w with
  | [],w=>exact h _ _ w
  | [t],w=>exact Ev.mono w h
 obtain go:∀ (as:List α) (acc:List V) (l:List (Str×V)),(∀ a∈as,WIf d c ifs ⟨lk (L (f a)),hp⟩ fun ok σ'=>ok=p a/\σ'=⟨lk (L (f a)),hp⟩) ->
   (∀ a∈as,p a=true->W d c elt ⟨lk (L (f a)),hp⟩ fun v σ'=>v=e a/\σ'=⟨lk (L (f a)),hp⟩)->(∀ v,put x v l=L v)->K (acc++(as.filter p).map e) hp->CompRun d c (.Name x xp) ifs elt side K (as.map f) acc ⟨lk l,hp⟩:=by
  intro as
  induction as with
  | nil =>
   intro acc l _ _ _ h
   have h':K (acc++[]) hp:=h
   rw[List.append_nil] at h'
   exact h'
  | cons a as ih =>
   intro acc l turn el hl h
   obtain turn':=fun b hb=>turn b (List.mem_cons_of_mem _ hb)
   obtain el':=fun b hb=>el b (List.mem_cons_of_mem _ hb)
   refine (?_:Asg d c (.Name x xp) (f a) ⟨lk l,hp⟩ _)
   refine A_loc hx (hl _) ?_
   refine wif _ _ _ _ (fun ok σ' hok=>?_) (turn a (.head _))
   obtain hq0:=hok.1;obtain hq1:=hok.2
   try clear hok
   subst hq0
   subst hq1
   cases hp':p a with
   | true =>
    simp only[if_true]
    refine Ev.mono (el a (.head _) hp') fun v σ' hv=>?_
    obtain hq0:=hv.1;obtain hq1:=hv.2
    try clear hv
    subst hq0
    subst hq1
    refine ⟨hs,ih _ _ turn' el' (h1 _) ?_⟩
    simp only[List.filter_cons_of_pos hp',List.map_cons] at h
    simpa using h
   | false =>
    simp only[Bool.false_eq_true,if_false]
    refine ⟨hs,ih _ _ turn' el' (h1 _) ?_⟩
    rw[List.filter_cons_of_neg (by simp[hp'])] at h
    exact h
 exact go as acc l turn el h0 h
theorem clipAt_nat (n k:Nat):clipAt n (k:Int)=min k n:=by
 unfold clipAt
 rw[if_neg (Int.not_lt.mpr (Int.natCast_nonneg k))]
 exact (Nat.le_total k n).elim (fun h=>by rw[Int.min_eq_left (Int.ofNat_le.mpr h),Int.max_eq_right (Int.natCast_nonneg k),Int.toNat_natCast,Nat.min_eq_left h])
  fun h=>by rw[Int.min_eq_right (Int.ofNat_le.mpr h),Int.max_eq_right (Int.natCast_nonneg n),Int.toNat_natCast,Nat.min_eq_right h]
theorem clipAt_m1 (n:Nat):clipAt n (-1)=n - 1:=by
 cases n with
 | zero=>rfl
 | succ n =>
  unfold clipAt
  rw[if_pos (by decide),Int.natCast_succ,Int.add_comm,Int.add_neg_cancel_right,Int.min_eq_left (Int.le_of_lt (Int.lt_succ _)),Int.max_eq_right (Int.natCast_nonneg n),Int.toNat_natCast];rfl
theorem sub_cutK {value slice:Expr} {key:Key} {n:Nat} {K:V->St->Prop} (hz:key.length<=1000) (h:K (kV (key.take n)) σ):Sub d c value slice (kV key) (.sl none (some (n:Int)) none) σ K :=
 sub_cut (by simpa using hz) (by
  rw[clipAt_nat,<- List.map_take,List.length_map]
  rw[<- List.take_eq_take_min];exact h)
theorem sub_cutM {value slice:Expr} {key:Key} {K:V->St->Prop} (hz:key.length<=1000) (h:K (kV key.dropLast) σ):Sub d c value slice (kV key) (.sl none (some (-1)) none) σ K :=
 sub_cut (by simpa using hz) (by
  rw[clipAt_m1,<- List.map_take,List.length_map,<- List.dropLast_eq_take];exact h)
structure St.le (σ' σ:St):Prop where
 loc:∀ x v,σ'.loc x=some v->σ.loc x=some v
 hp:∀ a o,σ'.hp a=some o->σ.hp a=some o
theorem Rep.sub {σ':St} {g:Gh} {A:Around} {env:Env} {s:Shared} (r:Rep d g A env σ s) (h:St.le σ' σ):Rep d g A env σ' s :=
 ⟨r.sh,r.base,⟨elEA r.fr.ns fun m hm hv=>⟨m,hm,fun x v e k=>hv x v (h.loc x v e) k⟩,fun x v e k=>r.fr.cell x v (h.loc x v e) k,r.fr.own,r.fr.ownc,r.fr.ownp,r.fr.cinj,r.fr.fn,r.fr.glob,r.fr.bi,r.fr.low⟩,r.frs,fun a o e=>r.ob a o (h.hp a o e),r.ok⟩
theorem Ev.sub {α β:Type} {R:Gh->Heap->β->α->Prop} {t:Sem α} {σ':St} {K:β->St->Prop} (h:St.le σ' σ) (x:Ev d c R t σ' K):Ev d c R t σ K:=fun g s r=>x g s (r.sub h)
theorem Ev1.sub {α β:Type} {R:Gh->Heap->β->α->Prop} {v:V} {t:Value->Sem α} {σ':St} {K:β->St->Prop} (h:St.le σ' σ) (x:Ev1 d c R v t σ' K):Ev1 d c R v t σ K:=fun g s y r ry=>x g s y (r.sub h) ry
theorem ForRun.sub {target:Expr} {body orelse:List Stmt} {side:(Addr->Option AO)->Prop} {K:Fl->St->Prop} {xs:List V} {σ':St} (h:St.le σ' σ) (x:ForRun d c target body orelse side K xs σ'):ForRun d c target body orelse side K xs σ:=by
 cases xs with
 | nil=>exact Ev.sub h x
 | cons v xs=>exact Ev1.sub h x
theorem le_loc {l l':List (Str×V)} {hp:Addr->Option AO} (h:LocIn (lk l) l'):St.le ⟨lk l',hp⟩ ⟨lk l,hp⟩:=⟨fun x v e=>h.mem _ (look_in e),fun _ _ e=>e⟩
def alts (s:String):Lean.MacroM (Array (Lean.TSyntax ``Lean.Parser.Tactic.tacticSeq)):=(s.splitOn " ").toArray.mapM fun w=>do
 let k <- `(by kernel_rfl!)
 let l <- `(by walk_at "l")
 let p <- `(by walk_at "p")
 let h <- `(?_)
 let n:=(w.splitOn ":").getD 0 ""
 let as:=((w.splitOn ":").getD 1 "?").toList.toArray.map fun c=>if c = 'k' then k else if c = 'l' then l else if c = 'p' then p else h
 let i:=Lean.mkIdent (Lean.Name.mkSimple n)
 if w.endsWith ":r" then `(Lean.Parser.Tactic.tacticSeq| refine $i (k:=?_) ?_;rotate_left) else `(Lean.Parser.Tactic.tacticSeq| refine $i $as*)
end
section
variable {d:Wd} {c:Cx} {σ:St}
theorem strKind_key {x:Str} {t:Tok}:(PySem.strKind d.prog d.w).is x (.str x t)=true:=strKind_is _ _ x t
inductive RepPs (g:Gh) (h:Heap):List (V×V)->List (Value×Value)->Prop
 | nil:RepPs g h [] []
 | cons {a b:V} {x y:Value} {r:List (V×V)} {r':List (Value×Value)}:RepV g h a x->RepV g h b y->RepPs g h r r'->RepPs g h ((a,b)::r) ((x,y)::r')
theorem RepPs.cc {g:Gh} {h:Heap} {a b:V} {r:List (V×V)} {xs:List (Value×Value)} (q:RepPs g h ((a,b)::r) xs):∃ x y r',xs=(x,y)::r'/\RepV g h a x/\RepV g h b y/\RepPs g h r r':=by
 cases q with | cons p q r=>exact⟨_,_,_,rfl,p,q,r⟩
theorem RepPs.n {g:Gh} {h:Heap} {xs:List (Value×Value)} (q:RepPs g h [] xs):xs=[]:=by cases q;rfl
theorem RepKV.n {κ:Type} {g:Gh} {h:Heap} {xs:List (κ×Value)} (q:RepKV g h [] xs):xs=[]:=by cases q;rfl
noncomputable def pairTrees (c:Cx) (pos:Pos):List (Expr×Expr)->List (Sem Value×Sem Value)
 | []=>[]
 | (k,v)::r=>(eval k c.env,do let x <- eval v c.env;standAt pos;pure x)::pairTrees c pos r
noncomputable abbrev WP2 (d:Wd) (c:Cx) (pos:Pos) (ps:List (Expr×Expr)) (σ:St) (K:List (V×V)->St->Prop):Prop:=Ev d c RepPs (evalPairs (pairTrees c pos ps)) σ K
theorem WP2_nil {pos:Pos} {K:List (V×V)->St->Prop} (h:K [] σ):WP2 d c pos [] σ K:=fun g s r=>evalPairs_nil (.here r .nil h)
theorem WP2_cons {pos:Pos} {k v:Expr} {rest:List (Expr×Expr)} {K:List (V×V)->St->Prop} (h:W d c k σ fun a σ1=>W d c v σ1 fun b L8=>WP2 d c pos rest L8 fun bs σ3=>K ((a,b)::bs) σ3):WP2 d c pos ((k,v)::rest) σ K:=fun g s r=>by
 refine evalPairs_cons (Ev.b (h g s r) fun x J6 E1 a σ1 h1 h2 h3 h4=>?_)
 refine wpAny_bind (Ev.bk (h4 E1 J6 h1) h2 fun y J7 E2 b L8 k1 k2 k3 k4=>?_)
 refine wpAny_bind (wpAny_standAt (wpAny_pure ?_))
 exact Ev.bk (k4 E2 J7 k1) (h2.trans k2) fun ps J8 E3 bs σ3 l1 l2 l3 l4=>⟨E3,(a,b)::bs,σ3,l1,h2.trans (k2.trans l2),.cons (h3.kp (k2.trans l2)) (k3.kp l2) l3,l4⟩
theorem W_Dict3 {G7 G8 G9 L1 L3 v3:Expr} {L5 L6 L7:Str} {pos:Pos} {K:V->St->Prop} (hd:decide (L5≠L6/\L5≠L7/\L6≠L7)=true)
  (h:∀ D,σ.hp D=none->WP2 d c pos [(G7,L1),(G8,L3),(G9,v3)] (σ.upd D (.dictS [])) fun ps σ6 =>
   ∃ B2 B4 B5,ps=[(.str L5,B2),(.str L6,B4),(.str L7,B5)]/\σ6.hp D=some (.dictS [])/\K (.obj D) (σ6.upd D (.dictS [(L5,B2),(L6,B4),(L7,B5)])))
  (hshape:(evalEachOpt [some G7,some G8,some G9] c.env).zip ((evalEach [L1,L3,v3] c.env).map fun v=>do let x <- v;standAt pos;pure x)=(pairTrees c pos [(G7,L1),(G8,L3),(G9,v3)]).map fun p=>(some p.1,p.2):=by rfl) :
  W d c (.Dict [some G7,some G8,some G9] [L1,L3,v3] pos) σ K:=fun g s r=>by
 have hd':=of_decide_eq_true hd
 refine wpAny_Dict_pairs (knd:=PySem.strKind d.prog d.w) hshape (by simp[pairTrees]) (by simp[pairTrees]) ?_
 have I6:=r.made { cls:=.type "dict",data:=.dict #[] } (.dictS []) s.toks ⟨[],Heap.DictOf.new ..,.nil⟩
 have G6:=(r.chPush { cls:=.type "dict",data:=.dict #[] } (.own s.heap.objs.size)).kp
 refine Ev.bk (h s.heap.objs.size r.fresh _ _ I6) G6 fun vs J6 g' bs σ6 J2 H9 rps zk=>elEEEAA zk fun B2 B4 B5 e hp6 hK=>?_
 subst e
 refine elEEEAAA rps.cc fun y1 z1 l1 e1 p1 q1 rps=>elEEEAAA rps.cc fun y2 z2 l2 e2 p2 q2 rps=>elEEEAAA rps.cc fun y3 z3 l3 e3 p3 q3 rps=>elE p1.s fun t1 u1=>elE p2.s fun t2 u2=>elE p3.s fun t3 u3=>?_
 have ev:vs=[(.str L5 t1,z1),(.str L6 t2,z2),(.str L7 t3,z3)]:=by rw[e1,e2,e3,u1,u2,u3,rps.n]
 subst ev
 refine elAAAEA (J2.ob _ _ hp6) fun uu uu uu ys D z=>?_
 rw[z.n] at D
 refine ⟨[(L5,_),(L6,_),(L7,_)],⟨strKind_key,rfl,strKind_key,rfl,strKind_key,rfl,trivial⟩,D,fun h' D' hs'=>?_⟩
 have em:∀ B6 B7 B8:Value,merged [] [(L5,B6),(L6,B7),(L7,B8)]=[(L5,B6),(L6,B7),(L7,B8)]:=fun B6 B7 B8=>by
  simp[merged,stored,hd'.1,hd'.2.1,hd'.2.2]
 rw[em] at D'
 have kk:=(J2.ch1 hp6 hs').kp
 refine elA (J2.upd1 (ao':=.dictS [(L5,B2),(L6,B4),(L7,B5)]) hp6 hs' (J6.toks+3) ⟨_,D',.cons (q1.kp kk) (.cons (q2.kp kk) (.cons (q3.kp kk) .nil))⟩) fun J3 uu=>?_
 exact⟨g',.obj _,_,J3,G6.trans (H9.trans kk),.raw _,hK⟩
theorem mid {st rest:List Stmt} {K:Fl->St->Prop} {M:St->Prop} (h1:WB d c st σ fun f σ'=>f = .next/\M σ') (h2:∀ σ',M σ'->WB d c rest σ' K):WB d c st σ (Then d c rest K) :=
 h1.mono fun f σ' ⟨e,hM⟩=>by subst e;exact h2 σ' hM
theorem ite_mid {b:Prop} [Decidable b] {s1 s2 rest:List Stmt} {K:Fl->St->Prop} (M:St->Prop) (h2:∀ σ',M σ'->WB d c rest σ' K) (h1:b->WB d c s1 σ fun f σ'=>f = .next/\M σ') (h3:¬b->WB d c s2 σ fun f σ'=>f = .next/\M σ') :
  if b then WB d c s1 σ (Then d c rest K) else WB d c s2 σ (Then d c rest K):=by
 split
 ·rename_i h;exact mid (h1 h) h2
 ·rename_i h;exact mid (h3 h) h2
end
section
noncomputable def Hit (t:SetTable):Nat->SetTable.Probe->Prop
 | 0,p=>t.slot p.j = .empty
 | n+1,p=>t.slot p.j = .empty\/Hit t n (t.advance p)
structure P8 (p:SetTable.Probe):Prop where
 more:p.more=0
 ji:p.j=p.i
 lt:p.i < 8
 dum:p.dummy=none
theorem runEnd7 (i:Nat):SetTable.runEnd 7 i=i:=by unfold SetTable.runEnd;rw[if_neg Y109]
theorem adv8 {t:SetTable} (hm:t.mask=7) {p:SetTable.Probe} (P:P8 p):t.advance p=⟨(p.i * 5+1+p.perturb / 32) % 8,0,(p.i * 5+1+p.perturb / 32) % 8,p.perturb / 32,none⟩:=by
 obtain⟨j,more,i,pe,du⟩:=p
 obtain⟨h1,h2,h3,h4⟩:=P
 simp only at h1 h2 h3 h4
 subst h1 h2 h4
 delta SetTable.advance SetTable.leap
 simp only[hm,runEnd7,Nat.lt_irrefl,if_false,Nat.sub_self]
theorem adv8P {t:SetTable} (hm:t.mask=7) {p:SetTable.Probe} (P:P8 p):P8 (t.advance p):=by
 simp only[adv8 hm P];exact⟨rfl,rfl,Nat.mod_lt _ (by decide),rfl⟩
theorem start8 {t:SetTable} (hm:t.mask=7) (h:Int):P8 (t.probeStart h):=by
 unfold SetTable.probeStart
 simp only[hm,runEnd7,Nat.sub_self]
 exact⟨rfl,rfl,Nat.mod_lt _ (by decide),rfl⟩
theorem Hit.up {t:SetTable}:∀ {n:Nat} {p:SetTable.Probe},Hit t n p->Hit t (n+1) p
 | 0,_,h=>.inl h
 | n+1,_,h=>h.elim .inl fun h=>.inr (Hit.up h)
theorem Hit.le {t:SetTable} {n m:Nat} {p:SetTable.Probe} (h:Hit t n p) (hn:n<=m):Hit t m p:=by
 induction hn with
 | refl=>exact h
 | step _ ih=>exact ih.up
noncomputable def cyc (i n:Nat):Nat:=match n with
 | 0=>i
 | n+1=>cyc ((i * 5+1) % 8) n
theorem cyc_all:∀ i < 8,∀ j < 8,∃ n,n < 8/\cyc i n=j:=by decide
theorem hit0 {t:SetTable} (hm:t.mask=7):∀ (n:Nat) (p:SetTable.Probe),P8 p->p.perturb=0->t.slot (cyc p.i n) = .empty->Hit t n p
 | 0,p,P,h0,h=>by unfold Hit;rw[P.ji];exact h
 | n+1,p,P,h0,h=>by
  refine .inr (hit0 hm n _ (adv8P hm P) ?_ ?_)
  ·rw[adv8 hm P,h0]
  ·rw[adv8 hm P,h0];exact h
theorem hitN {t:SetTable} (hm:t.mask=7) {j:Nat} (hj:j < 8) (he:t.slot j = .empty):∀ (k:Nat) (p:SetTable.Probe),P8 p->p.perturb < 32 ^ k->Hit t (k+8) p
 | 0,p,P,h0=>by
  have h1:p.perturb=0:=by simpa using h0
  refine elEA (cyc_all p.i P.lt j hj) fun n hn e=>?_
  exact (hit0 hm n p P h1 (by rw[e];exact he)).le (by walk_at "o")
 | k+1,p,P,h0=>by
  rw[show k+1+8=(k+8)+1 from by exact Y45]
  refine .inr (hitN hm hj he k _ (adv8P hm P) ?_)
  rw[adv8 hm P]
  refine (?_:p.perturb / 32 < 32 ^ k)
  rw[Nat.div_lt_iff_lt_mul (by decide)]
  simp only[Nat.pow_succ] at h0;exact Y150 h0
theorem bits_lt (h:Int):SetTable.bits h < 32 ^ 13:=by
 delta SetTable.bits
 obtain h1:0<=h % (2 ^ 64:Int):=Int.emod_nonneg _ (by decide)
 obtain h2:h % (2 ^ 64:Int) < 2 ^ 64:=Int.emod_lt_of_pos _ (by decide)
 exact Y18
theorem slot_eq (t:SetTable) (j:Nat):t.slot j=if (t.place[SetTable.below t.place j]? == some j)=true then .live (SetTable.below t.place j) else if SetTable.has t.dummies j=true then .dummy else .empty:=rfl
theorem slot_live {t:SetTable} {j i:Nat} (h:t.slot j = .live i):t.place[i]? = some j:=by
 simp only[slot_eq] at h
 by_cases hq:(t.place[SetTable.below t.place j]? == some j)=true
 ·rw[if_pos hq] at h
  injection h with h
  rw[<- h];exact eq_of_beq hq
 ·rw[if_neg hq] at h
  by_cases hr:SetTable.has t.dummies j=true
  ·rw[if_pos hr] at h;exact nomatch h
  ·rw[if_neg hr] at h;exact nomatch h
theorem slot_cases {t:SetTable} (hd:t.dummies = #[]) (j:Nat):t.slot j = .empty\/∃ i,t.slot j = .live i/\t.place[i]? = some j:=by
 cases h:t.slot j with
 | empty=>exact .inl rfl
 | live i=>exact .inr ⟨i,rfl,slot_live h⟩
 | dummy =>
  simp only[slot_eq] at h
  obtain this:SetTable.has t.dummies j=false:=by rw[hd];unfold SetTable.has;simp
  simp only[this] at h
  split at h
  ·exact nomatch h
  ·exact nomatch h
theorem nodup_sub_len {α:Type} [DecidableEq α]:∀ {l m:List α},l.Nodup->(∀ x∈l,x∈m)->l.length<=m.length
 | [],_,_,_=>Nat.zero_le _
 | x::l,m,hn,hs=>by
  have hn':=List.nodup_cons.mp hn
  have:=nodup_sub_len (m:=m.erase x) hn'.2 fun y hy=>(List.mem_erase_of_ne fun (e:y=x)=>hn'.1 (e ▸ hy)).mpr (hs y (.tail _ hy))
  simp only[List.length_erase_of_mem (hs x (.head _))] at this
  obtain h1:0 < m.length:=List.length_pos_of_mem (hs x (.head _))
  simp only[List.length_cons];exact Y170 this h1
theorem some_empty {t:SetTable} (hd:t.dummies = #[]) (hs:t.place.size < 8):∃ j,j < 8/\t.slot j = .empty:=by
 refine Classical.byContradiction fun hn=>?_
 obtain hall:∀ j,j < 8->j∈t.place.toList:=fun j hj=>by
  rcases slot_cases hd j with h | ⟨i,_,h⟩
  ·exact absurd ⟨j,hj,h⟩ hn
  ·exact Array.mem_toList_iff.mpr (Array.mem_of_getElem? h)
 obtain this:=nodup_sub_len (List.nodup_range (n:=8)) (fun j hj=>hall j (List.mem_range.mp hj))
 simp at this
 exact (Y58 hs this).elim
theorem start_hit {t:SetTable} (hm:t.mask=7) (hd:t.dummies = #[]) (hs:t.place.size < 8) (h:Int):Hit t 21 (t.probeStart h):=by
 refine elEA (some_empty hd hs) fun j hj he=>?_
 refine hitN hm hj he 13 _ (start8 hm h) ?_
 unfold SetTable.probeStart
 exact bits_lt h
theorem probe_go {t:SetTable} (hm:t.mask=7) (hd:t.dummies = #[]) (hashAt:Nat->Int) (h:Int):∀ (n fuel:Nat) (p:SetTable.Probe),P8 p->Hit t n p->n < fuel ->
  (∃ j,SetTable.probe.go t hashAt h fuel p=some (.empty j none)/\j < 8/\t.slot j = .empty)\/(∃ j i q m,SetTable.probe.go t hashAt h fuel p=some (.candidate j i q)/\t.slot j = .live i/\t.place[i]? = some j/\P8 q/\Hit t m q/\m < n):=by
 intro n fuel
 induction fuel generalizing n with
 | zero=>exact fun _ _ _ hf=>absurd hf (Nat.not_lt_zero _)
 | succ fuel ih =>
  intro p P H hf
  unfold SetTable.probe.go
  rcases slot_cases hd p.j with e | ⟨i,e,hp⟩
  ·rw[e]
   exact .inl ⟨p.j,by rw[P.dum],by rw[P.ji];exact P.lt,e⟩
  ·rw[e]
   cases n with
   | zero=>unfold Hit at H;simp only[H] at e;cases e
   | succ n =>
    obtain H':Hit t n (t.advance p):=H.resolve_left fun z=>by simp only[z] at e;cases e
    dsimp only
    by_cases hq:(hashAt i == h)=true
    ·rw[if_pos hq]
     exact .inr ⟨p.j,i,_,n,rfl,e,hp,adv8P hm P,H',Nat.lt_succ_self n⟩
    ·rw[if_neg hq]
     rcases ih n _ (adv8P hm P) H' (Y132 hf) with z | ⟨j,i,q,m,z1,z2,z3,z4,z5,z6⟩
     ·exact .inl z
     ·exact .inr ⟨j,i,q,m,z1,z2,z3,z4,z5,Y153 z6⟩
theorem probe8 {t:SetTable} (hm:t.mask=7) (hd:t.dummies = #[]) (hashAt:Nat->Int) (h:Int) {n:Nat} {p:SetTable.Probe} (P:P8 p) (H:Hit t n p) (hn:n < 220) :
  (∃ j,t.probe hashAt h p=some (.empty j none)/\j < 8/\t.slot j = .empty)\/(∃ j i q m,t.probe hashAt h p=some (.candidate j i q)/\t.slot j = .live i/\t.place[i]? = some j/\P8 q/\Hit t m q/\m < n):=by
 unfold SetTable.probe
 rw[show 10 * SetTable.turns t.mask=220 from by rw[hm];rfl]
 exact probe_go hm hd hashAt h n 220 p P H hn
end
section
variable {d:Wd} {c:Cx} {σ:St}
inductive Pl (h:Heap):Nat->Value->Prop
 | int {n:Nat} (i:Int) (t:Tok):Pl h n (.int i t)
 | str {n:Nat} (x:Str) (t:Tok):Pl h n (.str x t)
 | tup {n m:Nat} {a:Addr} {o:Obj} {items:Array Value}:h.get? a=some o->o.cls = .type "tuple" -> o.data = .seq items m->(∀ v∈items.toList,Pl h n v)->Pl h (n+1) (.ref a)
variable {prog:Program} {w:World} {E:Value->Shared->Prop}
theorem hash_pl:∀ (n:Nat) (v:Value) (A:Around) (s:Shared) (Q:Int->Shared->Prop),Pl s.heap n v->A.units+n < cLine->(∀ k t,Q k { s with toks:=t })->wpAny (model prog w) A (pyHash v) Q E s
 | _,_,A,s,Q,.int i t,hu,h=>(intKind prog w).pyHash (intKind_is _ _ i t) (h _ _)
 | _,_,A,s,Q,.str x t,hu,h=>(PySem.strKind prog w).pyHash (strKind_is _ _ x t) (h _ _)
 | n+1,_,A,s,Q,.tup (a:=a) (items:=items) ho hc hd hi,hu,h=>by
  obtain hT:s.TypeIs (.ref a) "tuple":=⟨_,ho,hc⟩
  delta pyHash pyHashByItsType
  refine wpAny_bind (wpAny_cRoomFor_or (.inr (Y211 hu)) ?_)
  refine wpAny_bind (wpAny_specialOf hT F.slot_tuple_hash.lookup ?_)
  refine (?_:wpAny _ _ (if (some (Value.builtin "tuple.__hash__") == some Value.none)=true then _ else _) Q E s)
  rw[if_neg (by rw[beq_builtin_none];exact Bool.false_ne_true)]
  refine wpAny_bind (wpAny_specialOf hT F.slot_tuple_hash.lookup ?_)
  refine (?_:wpAny _ _ (callSpecialIfBoundUnlessNone? (.ref a) "__hash__" _ >>= _) Q E s)
  refine wpAny_bind (wpAny_callSpecialIfBoundUnlessNone?_slot hT F.slot_tuple_hash (wpAny_call_entry F.slot_tuple_hash hT F.entry_tuple_hash ?_ (F.args_tuple_hash_1 _)))
  refine (?_:wpAny _ _ (Builtin.Tuple.tupleItemsOf (.ref a) >>= _) _ _ s)
  refine wpAny_bind (wpAny_tupleItemsOf ho hd ?_)
  refine wpAny_bind ?_
  rw[<- Array.forIn_toList]
  refine wpAny_forIn_list _ (fun rest (b:Array Int) s'=>(∀ v∈rest,Pl s.heap n v)/\∃ t,s'={ s with toks:=t }) _ ?_ ?_ _ _ ⟨hi,s.toks,rfl⟩
  ·intro x rest b s' zr4
   refine elAE zr4 fun hl t hq2=>?_
   try clear zr4
   subst hq2
   refine wpAny_bind (hash_pl n x _ _ _ (hl x (.head _)) (by show A.units+1+n < _;exact Y206 hu) fun k t'=>?_)
   exact wpAny_pure ⟨fun v hv=>hl v (.tail _ hv),t',rfl⟩
  ·intro b s' zr2
   refine elE zr2.2 fun t hq2=>?_
   try clear zr2
   subst hq2
   refine (?_:wpAny _ _ (retInt (Builtin.Tuple.tupleHashOf b.toList)) _ _ _)
   refine wpAny_ret_mkInt ?_
   refine (?_:wpAny _ _ (if (decide (-(2:Int) ^ 63<=Builtin.Tuple.tupleHashOf b.toList)&&decide (Builtin.Tuple.tupleHashOf b.toList < 2 ^ 63))=true then _ else _) Q E _)
   split
   ·exact wpAny_pure (h _ _)
   ·exact wpAny_bind (wpAny_rule (wpAny_pure (h _ _)))
theorem hashBy_str {x:Str} {t:Tok} {m:Nat} {A:Around} {s:Shared} {Q:Bool->Shared->Prop} (h:Q false s):wpAny (model prog w) A (hashByValue m (.str x t)) Q E s:=by unfold hashByValue;exact wpAny_pure h
theorem hashBy_first {m k:Nat} {a:Addr} {o:Obj} {items:Array Value} {x:Value} {xs:List Value} {A:Around} {s:Shared} {Q:Bool->Shared->Prop} (ho:s.heap.get? a=some o) (hc:o.cls = .type "tuple") (hd:o.data = .seq items k) (hi:items.toList=x::xs)
  (hx:∀ Q':Bool->Shared->Prop,Q' false s->wpAny (model prog w) A (hashByValue m x) Q' E s) (h:Q false s):wpAny (model prog w) A (hashByValue (m+1) (.ref a)) Q E s:=by
 obtain hT:s.TypeIs (.ref a) "tuple":=⟨_,ho,hc⟩
 unfold hashByValue
 refine wpAny_bind (wpAny_specialOf hT F.slot_tuple_hash.lookup ?_)
 refine (?_:wpAny _ _ (seqItems? (.ref a) >>= _) _ _ s)
 refine wpAny_bind (wpAny_seqItems ho hd ?_)
 refine wpAny_bind ?_
 refine (?_:wpAny _ _ (forIn items _ _) _ _ s)
 rw[<- Array.forIn_toList,hi]
 simp only[List.forIn_cons]
 refine wpAny_bind (wpAny_bind (hx _ ?_))
 simp only[Bool.not_false,if_true]
 exact wpAny_pure (wpAny_pure (wpAny_pure h))
theorem quiet_pl:∀ (n m:Nat) (v:Value) (A:Around) (s:Shared) (Q:Bool->Shared->Prop),Pl s.heap n v->n<=m->Q true s->wpAny (model prog w) A (eqIsQuiet m v) Q E s
 | _,m,_,A,s,Q,.int i t,hm,h=>by rw[eqIsQuiet_byValue _ rfl];exact wpAny_pure h
 | _,m,_,A,s,Q,.str x t,hm,h=>by rw[eqIsQuiet_byValue _ rfl];exact wpAny_pure h
 | n+1,m',_,A,s,Q,.tup (a:=a) (items:=items) ho hc hd hi,hm,h=>by
  obtain⟨m,rfl⟩:∃ m,m'=m+1:=⟨m' - 1,Y181 hm⟩
  have hT:s.TypeIs (.ref a) "tuple":=⟨_,ho,hc⟩
  unfold eqIsQuiet
  refine wpAny_bind (wpAny_specialOf hT F.slot_tuple_eq.lookup ?_)
  refine (?_:wpAny _ _ (isInstance (.ref a) (.type "tuple") >>= _) _ _ s)
  refine wpAny_bind (wpAny_isInstance hT isSubtype_tuple_tuple ?_)
  simp only[Bool.not_true,Bool.false_eq_true,if_false]
  refine wpAny_bind (wpAny_seqItems ho hd ?_)
  refine wpAny_bind ?_
  refine (?_:wpAny _ _ (forIn items _ _) _ _ s)
  simp only[<- Array.forIn_toList]
  refine wpAny_forIn_list _ (fun rest r s'=>r.1=none/\s'=s/\∀ v∈rest,Pl s.heap n v) _ ?_ ?_ _ _ ⟨rfl,rfl,hi⟩
  ·intro x rest r s' zr4
   obtain hr:=zr4.1;obtain hq1:=zr4.2.1;obtain hall:=zr4.2.2
   try clear zr4
   subst hq1
   refine wpAny_bind (quiet_pl n m x _ _ _ (hall x (.head _)) (Y134 hm) ?_)
   simp only[Bool.not_true,Bool.false_eq_true,if_false]
   exact wpAny_pure ⟨rfl,rfl,fun u hu'=>hall u (.tail _ hu')⟩
  ·intro zr0 s' zr2
   obtain⟨r1,r2⟩:=zr0
   refine elAA zr2 fun hr hq1 uu=>?_
   try clear zr2
   subst hq1
   simp only at hr
   subst hr
   exact wpAny_pure h
theorem notClass_pl:∀ (n m:Nat) (v:Value) (A:Around) (s:Shared) (Q:Bool->Shared->Prop),Pl s.heap n v->n<=m->Q false s->wpAny (model prog w) A (ofAClassStatement m v) Q E s
 | _,m,_,A,s,Q,.int i t,hm,h=>by cases m<;>(delta ofAClassStatement;exact wpAny_pure h)
 | _,m,_,A,s,Q,.str x t,hm,h=>by cases m<;>(delta ofAClassStatement;exact wpAny_pure h)
 | n+1,m',_,A,s,Q,.tup (a:=a) (items:=items) ho hc hd hi,hm,h=>by
  obtain⟨m,rfl⟩:∃ m,m'=m+1:=⟨m' - 1,Y181 hm⟩
  have hT:s.TypeIs (.ref a) "tuple":=⟨_,ho,hc⟩
  unfold ofAClassStatement
  refine wpAny_bind (wpAny_typeOf hT ?_)
  simp only[beq_self_eq_true,if_true]
  refine wpAny_bind (wpAny_pure ?_)
  simp only[Bool.not_true,Bool.false_eq_true,if_false]
  refine wpAny_bind (wpAny_seqItems ho hd ?_)
  refine wpAny_bind ?_
  show wpAny _ _ (forIn items _ _) _ _ s
  simp only[<- Array.forIn_toList]
  refine wpAny_forIn_list _ (fun rest r s'=>r.1=none/\s'=s/\∀ v∈rest,Pl s.heap n v) _ ?_ ?_ _ _ ⟨rfl,rfl,hi⟩
  ·intro x rest r s' zr4
   obtain hr:=zr4.1;obtain hq1:=zr4.2.1;obtain hall:=zr4.2.2
   try clear zr4
   subst hq1
   refine wpAny_bind (notClass_pl n m x _ _ _ (hall x (.head _)) (Y134 hm) ?_)
   simp only[Bool.false_eq_true,if_false]
   exact wpAny_pure ⟨rfl,rfl,fun u hu'=>hall u (.tail _ hu')⟩
  ·intro zr0 s' zr2
   obtain⟨r1,r2⟩:=zr0
   refine elAA zr2 fun hr hq1 uu=>?_
   try clear zr2
   subst hq1
   simp only at hr
   subst hr
   exact wpAny_pure h
theorem unseen_pl {n:Nat} (hn:n<=8) {A:Around} {s:Shared} {x:Value} {Q:Bool->Shared->Prop} (hx:Pl s.heap n x) (ys:List Value) (hy:∀ y∈ys,Pl s.heap n y) (h:Q false s):wpAny (model prog w) A (searchCouldBeSeen x ys) Q E s:=by
 unfold searchCouldBeSeen
 refine wpAny_bind ?_
 refine wpAny_forIn_list _ (fun rest r s'=>r.1=none/\s'=s/\∀ v∈rest,Pl s.heap n v) _ ?_ ?_ _ _ ⟨rfl,rfl,hy⟩
 ·intro y rest r s' zr4
  obtain hr:=zr4.1;obtain hq1:=zr4.2.1;obtain hall:=zr4.2.2
  try clear zr4
  subst hq1
  dsimp only
  have go:wpAny (model prog w) A (do
    if !(<- eqIsQuiet 8 x) then return ForInStep.done (some true,())
    if !(<- eqIsQuiet 8 y) then return ForInStep.done (some true,())
    if <- ofAClassStatement 8 x then return ForInStep.done (some true,())
    if <- ofAClassStatement 8 y then return ForInStep.done (some true,())
    return ForInStep.yield ((none,()):Option Bool×Unit)) (fun r s''=>r = .yield (none,())/\s''=s') E s':=by
   refine wpAny_bind (quiet_pl n 8 x _ _ _ hx hn ?_)
   simp only[Bool.not_true,Bool.false_eq_true,if_false]
   refine wpAny_bind (quiet_pl n 8 y _ _ _ (hall y (.head _)) hn ?_)
   simp only[Bool.not_true,Bool.false_eq_true,if_false]
   refine wpAny_bind (notClass_pl n 8 x _ _ _ hx hn ?_)
   simp only[Bool.not_true,Bool.false_eq_true,if_false]
   refine wpAny_bind (notClass_pl n 8 y _ _ _ (hall y (.head _)) hn ?_)
   simp only[Bool.not_true,Bool.false_eq_true,if_false]
   exact wpAny_pure ⟨rfl,rfl⟩
  split
  ·split
   ·exact wpAny_pure ⟨rfl,rfl,fun u hu'=>hall u (.tail _ hu')⟩
   ·refine wpAny_mono go (fun r s'' hz=>?_) fun _ _ z=>z
    obtain hq0:=hz.1;obtain hq1:=hz.2
    try clear hz
    subst hq0
    subst hq1
    exact⟨rfl,rfl,fun u hu'=>hall u (.tail _ hu')⟩
  ·split
   ·exact wpAny_pure ⟨rfl,rfl,fun u hu'=>hall u (.tail _ hu')⟩
   ·refine wpAny_mono go (fun r s'' hz=>?_) fun _ _ z=>z
    obtain hq0:=hz.1;obtain hq1:=hz.2
    try clear hz
    subst hq0
    subst hq1
    exact⟨rfl,rfl,fun u hu'=>hall u (.tail _ hu')⟩
 ·intro zr0 s' zr2
  obtain⟨r1,r2⟩:=zr0
  obtain hr:=zr2.1;obtain hq1:=zr2.2.1
  try clear zr2
  subst hq1
  simp only at hr
  subst hr
  exact wpAny_pure h
end
section
variable {d:Wd} {c:Cx} {σ:St}
variable {prog:Program} {w:World} {E:Value->Shared->Prop}
theorem searchFrom {a:Addr} {o:Obj} {ents:Array (Int×Value)} {ep:Nat} {t:SetTable} {x:Value} {hs:Int} {n:Nat} {A:Around} {s:Shared} {Q:SetFound->Shared->Prop}
  (hn:n<=8) (ho:s.heap.get? a=some o) (hd:o.data = .set ents ep t) (hm:t.mask=7) (hdm:t.dummies = #[]) (hz:t.place.size=ents.size) (hs8:ents.size < 8) (hx:Pl s.heap n x)
  (hy:∀ e∈ents.toList,(∃ b,e.2 = .ref b)/\Pl s.heap n e.2/\∀ Q':Bool->Shared->Prop,Q' false s->wpAny (model prog w) A (eqBool e.2 x) Q' E s)
  (h:∀ j,j < 8->t.slot j = .empty->Q (.free j false) s):∀ (m fuel:Nat) (stand:Option SetTable.Probe),P8 (stand.getD (t.probeStart hs))->Hit t m (stand.getD (t.probeStart hs))->m < fuel->m < 220 ->
  wpAny (model prog w) A (setSearchFrom a x hs true fuel stand) Q E s:=by
 intro m fuel
 induction fuel generalizing m with
 | zero=>exact fun _ _ _ hf=>absurd hf (Nat.not_lt_zero _)
 | succ fuel ih =>
  intro stand P H hf h220
  have hfit:t.fits ents.size=true:=by
   simp only[SetTable.fits,SetTable.fill,hdm,hm,hz,Bool.and_eq_true,beq_iff_eq,decide_eq_true_eq,true_and]
   show ents.size+0<=7;exact Y59 hs8
  refine wpAny_bind (wpAny_setState_of ho hd hfit ?_)
  dsimp only
  obtain hgw:t.gaveWay=false:=by unfold SetTable.gaveWay;rw[hm];rfl
  rw[hgw]
  simp only[Bool.false_eq_true,if_false]
  generalize hg:t.probe _ hs (stand.getD (t.probeStart hs))=pr
  rcases probe8 hm hdm (fun i=>(ents[i]?.map (·.1)).getD 0) hs P H h220 with ⟨j,e,hj,hsl⟩ | ⟨j,i,q,m',e,hsl,hpl,Pq,Hq,hlt⟩
  ·obtain rfl:pr=some (.empty j none):=hg.symm.trans e
   exact wpAny_pure (h j hj hsl)
  ·obtain rfl:pr=some (.candidate j i q):=hg.symm.trans e
   have hi:i < ents.size:=by simp only[<- hz];exact (Array.getElem?_eq_some_iff.mp hpl).1
   obtain hmem:ents[i]∈ents.toList:=by rw[Array.mem_toList_iff];exact Array.getElem_mem hi
   obtain hn0:=(hy _ hmem).1;obtain hplb:=(hy _ hmem).2.1;obtain heq:=(hy _ hmem).2.2
   refine elE hn0 fun b hb=>?_
   try clear hn0
   obtain hget:ents[i]? = some (ents[i].1,ents[i].2):=Array.getElem?_eq_getElem hi
   obtain rest:wpAny (model prog w) A (do
     let some (_,y):=ents[i]? | unsupported "internal:set-entry"
     let equal <- holding [y] (eqBool y x)
     let (es',_,t') <- setState a
     if true&&equal then return SetFound.there none
     let some same:=t'.sameMemory t.moves t.mask | unsupported "set.changed-during-lookup:is-the-new-block-at-the-old-address"
     let still <- match (if same then t'.slot j else .empty) with
      | .live i'=>match es'[i']? with
       | some (_,y')=>do pure (if <- isSame y' y then some i' else none)
       | none=>pure none
      | _=>pure none
     match still with
     | none=>rule "set.search.anew";setSearchFrom a x hs true fuel none
     | some i'=>if equal then return SetFound.there (some i') else setSearchFrom a x hs true fuel (some q)) Q E s:=by
    rw[hget]
    dsimp only
    refine wpAny_bind (wpAny_holding (heq _ ?_))
    refine wpAny_bind (wpAny_setState_of ho hd hfit ?_)
    obtain hsm:t.sameMemory t.moves t.mask=some true:=by unfold SetTable.sameMemory;rw[if_pos (beq_self_eq_true _)]
    dsimp only
    rw[hsm]
    simp only[Bool.and_false,Bool.false_eq_true,if_false,if_true]
    rw[hsl]
    dsimp only
    rw[hget]
    dsimp only
    rw[hb]
    refine wpAny_bind (wpAny_isSame_ref_self ?_)
    simp only[if_true]
    refine wpAny_bind (wpAny_pure ?_)
    exact ih m' (some q) Pq Hq (Y233 hf hlt) (Y183 h220 hlt)
   have pls:∀ y∈((ents.filter (·.1 == hs)).toList.map (·.2)),Pl s.heap n y:=fun y hy'=>by
    refine elEA (List.mem_map.mp hy') fun e he hq2=>?_
    subst hq2
    rw[Array.toList_filter] at he
    exact (hy e (List.mem_filter.mp he).1).2.1
   dsimp only
   by_cases hl:t.led=true
   ·rw[hl]
    simp only[Bool.not_true,Bool.false_eq_true,if_false]
    exact rest
   ·rw[Bool.eq_false_iff.mpr hl]
    simp only[Bool.not_false,if_true]
    refine wpAny_bind (unseen_pl hn hx _ pls ?_)
    simp only[Bool.false_eq_true,if_false]
    exact rest
theorem insertAt_toList {α:Type} (xs:Array α) (p:Nat) (x:α):(SetTable.insertAt xs p x).toList=xs.toList.take p++x::xs.toList.drop p:=by
 unfold SetTable.insertAt
 simp
 rw[List.take_of_length_le (by simp)]
theorem insertAt_perm {α:Type} (xs:Array α) (p:Nat) (x:α):(SetTable.insertAt xs p x).toList.Perm (x::xs.toList):=by
 rw[insertAt_toList]
 refine List.perm_middle.trans ?_
 rw[List.take_append_drop]
theorem insertAt_size {α:Type} (xs:Array α) (p:Nat) (x:α):(SetTable.insertAt xs p x).size=xs.size+1:=by
 rw[<- Array.length_toList,(insertAt_perm xs p x).length_eq];simp
theorem addHashed {a b:Addr} {o:Obj} {ents:Array (Int×Value)} {ep:Nat} {t:SetTable} {hs:Int} {n:Nat} {A:Around} {s:Shared} {Q:Bool->Shared->Prop}
  (hn:n<=8) (ho:s.heap.get? a=some o) (hd:o.data = .set ents ep t) (hm:t.mask=7) (hdm:t.dummies = #[]) (hz:t.place.size=ents.size) (hs8:ents.size<=3) (hx:Pl s.heap n (.ref b))
  (hy:∀ e∈ents.toList,(∃ b,e.2 = .ref b)/\Pl s.heap n e.2/\∀ Q':Bool->Shared->Prop,Q' false s->wpAny (model prog w) A (eqBool e.2 (.ref b)) Q' E s)
  (hv:∀ Q':Bool->Shared->Prop,Q' false s->wpAny (model prog w) A (hashByValue 8 (.ref b)) Q' E s)
  (h:∀ ents' t',ents'.toList.Perm ((hs,.ref b)::ents.toList)->t'.led=t.led->t'.mask=7->t'.dummies = #[]->t'.place.size=ents'.size->t'.plain=false->Q true { s with heap:=s.heap.update a (Obj.putSet ents' t') }) :
  wpAny (model prog w) A (setAddHashed a (.ref b) hs) Q E s:=by
 have hfit:t.fits ents.size=true:=by
  simp only[SetTable.fits,SetTable.fill,hdm,hm,hz,Bool.and_eq_true,beq_iff_eq,decide_eq_true_eq,true_and]
  show ents.size+0<=7;exact Y97 hs8
 unfold setAddHashed setAddHashedIn
 refine wpAny_holding (wpAny_bind (wpAny_setState_of ho hd hfit ?_))
 dsimp only
 obtain hbs:byScan (.ref b) ents=false:=by delta byScan Value.scannable;simp
 simp only[hbs]
 simp only[Bool.false_eq_true,if_false]
 delta setSearch
 refine wpAny_bind (searchFrom hn ho hd hm hdm hz (by walk_at "o") hx hy (fun j hj hsl=>?_) 21 100000 none (start8 hm hs) (start_hit hm hdm (Y159 hz hs8) hs) (by walk_at "o") (by walk_at "o"))
 dsimp only
 refine wpAny_bind (wpAny_setState_of ho hd hfit ?_)
 dsimp only
 obtain hput:t.put j=({ t with place:=SetTable.insertAt t.place (SetTable.below t.place j) j,dummies:=#[] },SetTable.below t.place j):=by
  unfold SetTable.put
  obtain this:SetTable.has #[] j=false:=by unfold SetTable.has;simp
  simp only[hdm,this,Bool.false_eq_true,if_false]
 rw[hput]
 dsimp only
 obtain key:∀ t2:SetTable,t2.led=t.led->t2.mask=7->t2.dummies = #[]->t2.place.size=ents.size+1->t2.plain=false->wpAny (model prog w) A (do
   storeSet a (SetTable.insertAt ents (SetTable.below t.place j) (hs,.ref b)) t2
   if (!false&&t2.tooFull)=true then do setRelay a (SetTable.grown (ents.size+1));pure true else pure true) Q E s:=fun t2 q1 q2 q3 q4 q5=>by
  refine wpAny_bind (wpAny_storeSet_of ho hd ?_ (by simp only[insertAt_size,sizeLine_eq];exact Y98 hs8))
  obtain htf:t2.tooFull=false:=by
   delta SetTable.tooFull SetTable.fill
   simp only[q2,q3,q4]
   obtain this:¬ ((ents.size+1+(#[]:Array Nat).size) * 5>=7 * 3):=by show ¬ ((ents.size+1+0) * 5>=7 * 3);exact Y99 hs8
   exact decide_eq_false this
  simp only[htf]
  simp only[Bool.and_false,Bool.false_eq_true,if_false]
  exact wpAny_pure (h _ t2 (insertAt_perm ..) q1 q2 q3 (by simp only[q4,insertAt_size]) q5)
 by_cases hp:t.plain=true
 ·rw[hp]
  simp only[if_true]
  refine wpAny_bind (hv _ ?_)
  simp only[Bool.false_eq_true,if_false]
  exact key _ rfl hm rfl (by simp only[insertAt_size,hz]) rfl
 ·obtain hp':=Bool.eq_false_iff.mpr hp
  rw[hp']
  simp only[Bool.false_eq_true,if_false]
  refine wpAny_bind (wpAny_pure ?_)
  simp only[if_true]
  exact key _ rfl hm rfl (by simp only[insertAt_size,hz]) rfl
end
section
variable {d:Wd} {c:Cx} {σ:St}
noncomputable def pV (p:Key×Int):V:=.tup [kV p.1,.int p.2]
noncomputable def pD (p:Key×Int):PyData:=.tuple [kD p.1,.int p.2]
theorem pV_data (p:Key×Int):(pV p).data=some (pD p):=by
 refine (?_:(datas [kV p.1,.int p.2]).map PyData.tuple=_)
 simp only[datas,kV_data];rfl
theorem eqv_pD (p q:Key×Int):PyData.eqv (pD p) (pD q)=decide (p=q):=by
 obtain⟨a,i⟩:=p;obtain⟨b,j⟩:=q
 obtain h:PyData.eqv (pD (a,i)) (pD (b,j))=PyData.eqvAll [kD a,.int i] [kD b,.int j]:=by unfold pD;simp only[PyData.eqv]
 obtain h2:PyData.eqv (.int i) (.int j)=decide (i=j):=by
  delta PyData.eqv;by_cases e:i=j<;>simp[e]
 simp only[h]
 simp only[PyData.eqvAll,eqv_kD,h2]
 by_cases e1:a=b<;>by_cases e2:i=j<;>simp[e1,e2]
theorem depth_pD (p:Key×Int):(pD p).depth<=2:=Nat.succ_le_succ (Nat.max_le.mpr ⟨depth_kD p.1,Nat.max_le.mpr ⟨Nat.zero_le 1,Nat.zero_le 1⟩⟩)
theorem pl_names {g:Gh} {h:Heap} {n:Nat} {k:Key} {vs:List Value} (r:RepVs g h (k.map nV) vs):∀ v∈vs,Pl h n v:=by
 induction k generalizing vs with
 | nil=>rw[r.n];exact fun _ hv=>nomatch hv
 | cons a k ih =>
  exact elEEAA r.c fun x xs e x0 r=>elE x0.s fun t e2=>by
   rw[e,e2]
   exact fun v hv=>(List.mem_cons.mp hv).elim (fun q=>q ▸ .str ..) fun hv=>ih r v hv
theorem pl_key {g:Gh} {h:Heap} {k:Key} {v:Value} (x:RepV g h (kV k) v):Pl h 1 v:=by
 cases x with | tup f e r=>exact .tup e rfl rfl (pl_names r)
theorem pl_pair {g:Gh} {h:Heap} {p:Key×Int} {v:Value} (x:RepV g h (pV p) v):∃ b,v = .ref b/\Pl h 2 v :=
 elEEEAAA x.t fun a items n _ e r e0=>elEEAA r.c2 fun u w e1 x1 x2=>elE x2.i fun t e2=>by
  rw[e0]
  refine ⟨a,rfl,.tup e rfl rfl ?_⟩
  rw[e1,e2]
  exact fun v hv=>(List.mem_cons.mp hv).elim (fun q=>q ▸ pl_key x1) fun hv=>(List.mem_singleton.mp hv) ▸ .int ..
theorem hashBy_pair {g:Gh} {p:Key×Int} {b:Addr} {A:Around} {s:Shared} {prog:Program} {w:World} {E:Value->Shared->Prop} (hk:p.1≠[]) (x:RepV g s.heap (pV p) (.ref b)) (Q':Bool->Shared->Prop) (h:Q' false s):wpAny (model prog w) A (hashByValue 8 (.ref b)) Q' E s :=
 elEEEAAA x.t fun a items n _ e r e0=>elEEAA r.c fun c1 cs hl x1 _=>elEEEAAA x1.t fun a2 items2 n2 _ e2 r2 e3=>by
  rw[Value.ref.inj e0]
  refine hashBy_first e rfl rfl hl (fun Q2 h2=>?_) h
  rw[e3]
  obtain⟨k,fl⟩:=p
  cases k with
  | nil=>exact absurd rfl hk
  | cons k0 k=>exact elEEAA r2.c fun c2 cs2 hl2 y _=>elE y.s fun t e4=>hashBy_first e2 rfl rfl hl2 (fun Q3 h3=>by rw[e4];exact hashBy_str h3) h2
theorem eq_pair {g:Gh} {p q:Key×Int} {u v:Value} {A:Around} {s:Shared} {prog:Program} {w:World} {E:Value->Shared->Prop} (hpq:p≠q) (x:RepV g s.heap (pV p) u) (y:RepV g s.heap (pV q) v) (hu:A.units+2 < cLine) (Q':Bool->Shared->Prop) (h:Q' false s):wpAny (model prog w) A (eqBool u v) Q' E s:=by
 refine elAE (data_reads x (pV_data p)) fun l1 as z1=>?_
 refine elAE (data_reads y (pV_data q)) fun l2 bs z2=>?_
 refine SeqAt.eqBoolOverData prog w A E s u v _ _ as bs Q' z1 z2 l1 l2 (by have:=depth_pD p;have:=Nat.min_le_left (pD p).depth (pD q).depth;omega) ?_
 rw[eqv_pD,decide_eq_false hpq];exact h
theorem RepVs.mem {g:Gh} {h:Heap} {vs:List V} {cs:List Value} (r:RepVs g h vs cs):∀ x∈cs,∃ v∈vs,RepV g h v x :=
 r.ind (P:=fun vs cs=>∀ x∈cs,∃ v∈vs,RepV g h v x) (fun _ hx=>nomatch hx) fun a _ ih x hx=>(List.mem_cons.mp hx).elim (fun e=>⟨_,.head _,e ▸ a⟩) fun hx=>elEA (ih x hx) fun v h1 h2=>⟨v,.tail _ h1,h2⟩
theorem RepVs.permP {g:Gh} {h:Heap} {ps:List (Key×Int)} {cs cs':List Value} (r:RepVs g h (ps.map pV) cs) (hp:cs'.Perm cs):∃ ps':List (Key×Int),ps'.Perm ps/\RepVs g h (ps'.map pV) cs':=by
 induction hp generalizing ps with
 | nil=>cases ps with
  | nil=>exact⟨[],.nil,.nil⟩
  | cons _ _=>exact elEEAA r.c fun _ _ e _ _=>nomatch e
 | cons x _ ih=>cases ps with
  | nil=>exact nomatch r.n
  | cons p ps=>exact elEEAA r.c fun u us e a r=>elEA (ih ((List.cons.inj e).2 ▸ r)) fun ps' h1 h2=>⟨p::ps',h1.cons _,.cons ((List.cons.inj e).1 ▸ a) h2⟩
 | swap x y l=>cases ps with
  | nil=>exact nomatch r.n
  | cons p ps=>cases ps with
   | nil=>exact elEEAA r.c fun u us e a r=>nomatch (List.cons.inj e).2.trans r.n
   | cons q ps =>
    exact elEEAA r.c fun u us e a r=>elEEAA r.c fun w ws e2 b r=>by
     have q1:=(List.cons.inj e).2.trans e2
     rw[(List.cons.inj e).1,(List.cons.inj q1).1,(List.cons.inj q1).2]
     exact⟨q::p::ps,.swap ..,.cons b (.cons a r)⟩
 | trans _ _ ih1 ih2=>exact elEA (ih2 r) fun p1 a1 b1=>elEA (ih1 b1) fun p2 a2 b2=>⟨p2,a2.trans a1,b2⟩
theorem call_padd {a:Addr} {ps:List (Key×Int)} {ep:Nat} {pl:List Nat} {p:Key×Int} {K:V->St->Prop} (R:Rm c.A 0) (hp:σ.hp a=some (.setP (ps.map pV) ep pl)) (hz:ps.length<=3) (hk:p.1≠[]) (hn:p ∉ ps)
  (h:∀ (ps':List (Key×Int)) (ep':Nat) (pl':List Nat),ps'.Perm (p::ps)->K .none (σ.upd a (.setP (ps'.map pV) ep' pl'))):CallV d c (.builtin "set.add") [.obj a,pV p] [] σ K:=cl_rv fun g s r x r2=>by
  obtain ow:=(r.ob a _ hp).1;obtain hne:=(r.ob a _ hp).2.1;obtain hbs:=(r.ob a _ hp).2.2.1;obtain zz0:=(r.ob a _ hp).2.2.2
  refine elEEEAAAA zz0 fun o ents t ho hex hd hrs zz1=>?_
  refine elAAAAAA zz1 fun hled hm hdm hpl hlen h4 hplain=>?_
  refine elEA (pl_pair r2) fun b hq1 px=>?_
  subst hq1
  obtain hlt:=R.lt
  have hents:ents.size=ps.length:=by obtain this:=hrs.length;simp at this;exact Y189 this
  have hplz:t.place.size=ents.size:=by
   rw[<- Array.length_toList,hpl,hlen,hents];simp
  refine wpAny_call_entry F.slot_set_add ⟨o,ho,hex.1⟩ F.entry_set_add ?_ (F.args_set_add_2 _ _)
  delta Builtin.«set.add» Builtin.Frozenset.oneOther
  simp only[List.isEmpty_nil,bind_assoc]
  delta Builtin.Frozenset.addrOf setAdd
  refine wpAny_bind (wpAny_pure ?_)
  try dsimp only
  refine wpAny_bind (wpAny_pure ?_)
  try dsimp only
  refine wpAny_bind ?_
  refine wpAny_holding ?_
  refine wpAny_bind (hash_pl 2 (.ref b) _ _ _ px (by show c.A.units+1+2 < _;exact Y142 hlt) fun k tk=>?_)
  refine addHashed (s:={ s with toks:=tk }) (n:=2) (by walk_at "o") ho hd hm hdm hplz (Y198 hz hents) px (fun e he=>?_) (fun Q' h'=>hashBy_pair (s:={ s with toks:=tk }) hk r2 Q' h') fun ents' t' q1 q2 q3 q4 q5 q6=>?_
  ·refine elE (hrs.mem e.2 (List.mem_map.mpr ⟨e,he,rfl⟩)) fun v zz112=>?_;obtain hv:=zz112.1;obtain rv:=zz112.2
   refine elEA (List.mem_map.mp hv) fun q hq hq2=>?_
   subst hq2
   refine elE (pl_pair rv) fun b' zz115=>?_;obtain hb':=zz115.1;obtain pq:=zz115.2
   exact⟨⟨b',hb'⟩,pq,fun Q' h'=>eq_pair (s:={ s with toks:=tk }) (fun e=>hn (by simp only[<- e];exact hq)) rv r2 (by show c.A.units+1+2 < _;exact Y142 hlt) Q' h'⟩
  ·show wpAny _ _ (ret Value.none) _ _ _
   have hsb:=Heap.SameBut.update s.heap a (Obj.putSet ents' t')
   have k':=(r.ch1 hp hsb).kp
   obtain hg:(s.heap.update a (Obj.putSet ents' t')).get? a=some { o with data:=.set ents' (ep+1) t' }:=by
    obtain this:=Heap.get?_update_self (Obj.putSet ents' t') ho (by simp only[putSet_of ents' t' hd];rfl)
    simp only[putSet_of ents' t' hd] at this;exact this
   obtain hrs':RepVs g (s.heap.update a (Obj.putSet ents' t')) ((p::ps).map pV) (.ref b::ents.toList.map (·.2)):=.cons (r2.kp k') (hrs.kp k')
   refine elE (hrs'.permP (cs':=ents'.toList.map (·.2)) (by obtain this:=q1.map (·.2);simpa using this)) fun ps' zz124=>?_;obtain e1:=zz124.1;obtain e2:=zz124.2
   obtain hl':=e1.length_eq
   obtain hes':ents'.size=ps'.length:=by obtain this:=e2.length;simp at this;exact Y189 this
   obtain⟨r',_⟩:=r.upd1 (ao':=.setP (ps'.map pV) (ep+1) t'.place.toList) hp hsb tk ⟨_,ents',t',hg,hex,rfl,e2,q2.trans hled,q3,q4,rfl,by simp only[Array.length_toList,q5,hes'];simp,by simp at hl' ⊢;exact Y197 hz hl',fun _=>q6⟩
   exact wpAny_pure ⟨_,rfl,⟨g,.none,_,r',k',.raw _,h ps' _ _ e1⟩⟩
end
section
variable {d:Wd} {c:Cx} {σ:St}
section
variable {prog:Program} {w:World} {E:Value->Shared->Prop} {A:Around} {s:Shared}
noncomputable def newS (w:World):Obj:={ cls:=.type "set",dict:=none,data:=.set #[] 0 (.fresh 0 0 (!w.params.followText "set-order")) }
theorem code_newS {Q:Value->Shared->Prop} (h:Q (.ref s.heap.objs.size) { s with heap:=s.heap.push (newS w) }):codeAny (model prog w) A (.call (.builtin "set.__new__") ⟨[.type "set"],[]⟩) (wants Q E) s:=by
 refine codeAny_of_tree ?_
 show wpAny _ A.in1 (do checkBuiltinCall "set.__new__" ⟨[.type "set"],[]⟩;again (.builtin "set.__new__" ⟨[.type "set"],[]⟩)) _ _ s
 refine wpAny_bind (wpAny_of_eq F.newCall_set_0 (wpAny_pure ⟨plainId_quiet F.plain_set_new _,codeAny_builtin F.entry_set_new ?_⟩))
 rw[Around.under_plainId F.plain_set_new _]
 unfold Builtin.«set.__new__» Builtin.Frozenset.newClass
 have hsub:=sub_set_self
 obtain⟨hp,g,dr,tk,os⟩:=s
 dsimp only
 wp_walk
 refine wpAny_askSetting (wpAny_pure ?_)
 dsimp only
 simp only[newObj]
 refine wpAny_bind (wpAny_alloc (wpAny_pure ?_))
 exact wpAny_pure h
set_option maxHeartbeats 1000000 in
theorem call_newS {Q:Value->Shared->Prop} (h:Q (.ref s.heap.objs.size) { s with heap:=s.heap.push (newS w) }):wpAny (model prog w) A (call (.type "set") []) Q E s:=by
 refine elEE F.called_set.mro fun cc tl hmro=>?_
 have hmade:=F.called_set.made
 have hsub:=F.called_set.sub
 refine wpAny_call (codeAny_of_tree ?_)
 show wpAny _ _ (callAny (.type "set") _) _ _ _
 refine wpAny_pure ⟨Code.quiet_builtin _ (by decide +kernel),codeAny_builtin F.entry_type_call ?_⟩
 rw[Around.under_plain (weight_type_call_type "set" [] []) rfl]
 have h1:=F.called_set.notType
 have h2:=F.called_set.canCreate
 have hct:=F.typeCall_set_0
 repeat (any_goals (first | assumption | wp_step))
 refine codeAny_mono (code_newS (E:=E) (Q:=fun obj J6=>obj = .ref s.heap.objs.size/\J6={ s with heap:=s.heap.push (newS w) }) ⟨rfl,rfl⟩) fun r J6 hr=>?_
 cases r with
 | error e=>exact hr
 | ok fl =>
  cases fl with
  | ret obj =>
   refine elA hr fun hq0 hq1=>?_
   try clear hr
   subst hq0
   subst hq1
   have hT:Shared.TypeIs { s with heap:=s.heap.push (newS w) } (.ref s.heap.objs.size) "set":=⟨_,Heap.get?_push_size _ rfl,rfl⟩
   have hli:=F.called_set.init.lookup
   have hbi:=F.called_set.init.bind (.ref s.heap.objs.size)
   repeat (any_goals (first | assumption | wp_step))
   refine codeAny_mono (codeAny_call_builtin (R:=wants (fun r J7=>r = .none/\Q (.ref s.heap.objs.size) J7) E) F.called_set.init.plain F.entry_set_init (check_set_init hT ?_)) fun I8 J7 E6=>?_
   ·unfold Builtin.«set.__init__» noKeywords
    wp_walk
    exact⟨rfl,h⟩
   ·cases I8 with
    | error e=>exact E6
    | ok fl2 =>
     cases fl2 with
     | ret r =>
      refine elA E6 fun hq0 hq=>?_
      try clear E6
      subst hq0
      repeat (any_goals (first | assumption | wp_step))
     | _=>exact E6.elim
  | _=>exact hr.elim
end
theorem call_setP0 {K:V->St->Prop} (h:∀ a,σ.hp a=none->K (.obj a) (σ.upd a (.setP [] 0 []))):CallV d c (.type "set") [] [] σ K:=cl_0 fun g s r=>by
 refine call_newS ?_
 refine ⟨gset g s.heap.objs.size (.own s.heap.objs.size),.obj s.heap.objs.size,_,r.made _ (.setP [] 0 []) s.toks ?_,(r.chPush _ _).kp,.raw _,h _ r.fresh⟩
 exact⟨_,#[],_,Heap.get?_push_size _ rfl,⟨rfl,rfl,rfl⟩,rfl,.nil,rfl,rfl,rfl,rfl,rfl,by simp,fun h=>absurd rfl h⟩
theorem getM_setP {a:Addr} {es:List V} {ep:Nat} {pl:List Nat} {name:Str} {id:String} {K:Value->List V->St->Prop} (hp:σ.hp a=some (.setP es ep pl)) (slot:Slot "set" name id) (hty:typeOf (.builtin id)=pure (.type "method_descriptor"))
  (h:K (.builtin id) [.obj a] σ):GetM d c (.obj a) name σ K:=fun ppl g s x r rx=>by
 rw[rx.r]
 ·
  refine elAAA (r.ob a _ hp) fun uu uu uu zz0=>?_
  refine elEEEAA zz0 fun o ents t ho hex uu=>?_
  exact getMethod_builtin ⟨o,ho,hex.1⟩ F.plainAttrs_set slot hty (fun b e=>by injection e with e;subst e;exact⟨o,ho,hex.2.1⟩) (.here r (b:=(Value.builtin id,[V.obj a])) ⟨rfl,.cons (.raw _) .nil⟩ h)
section
variable {prog:Program} {w:World} {E:Value->Shared->Prop} {A:Around} {s:Shared}
theorem byText_ask {Q:Bool->Shared->Prop} (h:Q (w.params.followText "set-order") s):wpAny (model prog w) A setsByText Q E s:=by
 unfold setsByText
 exact wpAny_bind (wpAny_askSetting (wpAny_pure h))
theorem walk_still {a:Addr} {o:Obj} {ents:Array (Int×Value)} {ep:Nat} {t:SetTable} {Q:Array (Int×Value)->Shared->Prop} (ho:s.heap.get? a=some o) (hd:o.data = .set ents ep t) (hf:t.fits ents.size=true)
  (hl:t.led = !w.params.followText "set-order") (hq:(w.params.followText "set-order" || (t.led&&t.plain)||decide (ents.size<=1))=true) (h:∀ arr,Q arr s):wpAny (model prog w) A (setWalk a) Q E s:=by
 unfold setWalk
 refine wpAny_bind (wpAny_setState_of ho hd hf ?_)
 dsimp only
 refine wpAny_bind (byText_ask ?_)
 by_cases hb:w.params.followText "set-order" = true
 ·rw[if_pos hb]
  exact wpAny_bind (wpAny_askSetting (wpAny_pure (h _)))
 ·have hb':=Bool.eq_false_iff.mpr hb
  rw[if_neg hb]
  rw[hb'] at hl hq
  have hdr:¬ ((!t.plain&&decide (ents.size > 1))=true):=by
   intro z
   simp only[Bool.and_eq_true,Bool.not_eq_true',decide_eq_true_eq] at z
   rw[z.1] at hq
   simp at hq
   omega
  split
  ·rename_i z;exact absurd z hdr
  have hml:¬ ((!t.led&&decide (ents.size > 1))=true):=by rw[hl];simp
  refine wpAny_bind (m:=if (!t.led&&decide (ents.size > 1))=true then unsupported "set:maker-not-led" else pure ()) ?_
  rw[if_neg hml]
  exact wpAny_pure (wpAny_pure (h _))
end
theorem call_pclear {a:Addr} {es:List V} {ep:Nat} {pl:List Nat} {K:V->St->Prop} (hp:σ.hp a=some (.setP es ep pl)) (h:∀ ep',K .none (σ.upd a (.setP [] ep' []))):CallV d c (.builtin "set.clear") [.obj a] [] σ K:=cl_r fun g s r=>by
  refine elAAA (r.ob a _ hp) fun ow hne hbs zz0=>?_
  refine elEEEAAAA zz0 fun o ents t ho hex hd hrs zz1=>?_
  refine elAAAAAA zz1 fun hled hm hdm hpl hlen h4 hplain=>?_
  have hents:ents.size=es.length:=by have:=hrs.length;simp at this;exact Y189 this
  have hplz:t.place.size=ents.size:=by rw[<- Array.length_toList,hpl,hlen,hents]
  have hfit:t.fits ents.size=true:=by
   simp only[SetTable.fits,SetTable.fill,hdm,hm,hplz,Bool.and_eq_true,beq_iff_eq,decide_eq_true_eq,true_and]
   show ents.size+0<=7;exact Y203 h4 hents
  refine wpAny_call_entry F.slot_set_clear ⟨o,ho,hex.1⟩ F.entry_set_clear ?_ (F.args_set_clear_1 _)
  unfold Builtin.«set.clear» Builtin.Frozenset.clearAll setClear setDeathsKnown
  simp only[bind_assoc]
  refine wpAny_bind (wpAny_pure ?_)
  refine wpAny_bind (wpAny_setState_of ho hd hfit ?_)
  refine wpAny_bind (byText_ask ?_)
  refine wpAny_bind (wpAny_pure ?_)
  dsimp only
  have hcl:(t.cleared (!d.w.params.followText "set-order" && (t.led||t.finger == 0))).led = !d.w.params.followText "set-order":=by
   show (!d.w.params.followText "set-order" && (t.led||t.finger == 0))=_
   rw[hled];cases d.w.params.followText "set-order" <;> rfl
  have fin:∀ old:Option (List Value),wpAny (model d.prog d.w) c.A.in1 (do
    let st <- setState a
    let bt <- setsByText
    storeSet a #[] (st.2.2.cleared (!bt&&(st.2.2.led||st.2.2.finger == 0)))
    pure old) (fun _ s'=>PostQ d c g s RepV K .none s') (PostX d c g s) s:=fun old=>by
   refine wpAny_bind (wpAny_setState_of ho hd hfit ?_)
   refine wpAny_bind (byText_ask ?_)
   refine wpAny_bind (wpAny_storeSet_of ho hd ?_ (by rw[sizeLine_eq];simp))
   have hsb:=Heap.SameBut.update s.heap a (Obj.putSet #[] (t.cleared (!d.w.params.followText "set-order" && (t.led||t.finger == 0))))
   have k':=(r.ch1 hp hsb).kp
   have hg:(s.heap.update a (Obj.putSet #[] (t.cleared (!d.w.params.followText "set-order" && (t.led||t.finger == 0))))).get? a=some { o with data:=.set #[] (ep+1) (t.cleared (!d.w.params.followText "set-order" && (t.led||t.finger == 0))) }:=by
    have:=Heap.get?_update_self (Obj.putSet #[] (t.cleared (!d.w.params.followText "set-order" && (t.led||t.finger == 0)))) ho (by rw[putSet_of _ _ hd];rfl)
    rw[putSet_of _ _ hd] at this;exact this
   obtain⟨r',_⟩:=r.upd1 (ao':=.setP [] (ep+1) []) hp hsb s.toks ⟨_,#[],_,hg,hex,rfl,.nil,hcl,rfl,rfl,rfl,rfl,by simp,fun h=>absurd rfl h⟩
   exact wpAny_pure ⟨g,.none,_,r',k',.raw _,h _⟩
  refine wpAny_bind ?_
  split
  ·rename_i hq
   unfold setItems
   simp only[bind_assoc]
   refine wpAny_bind (walk_still ho hd hfit hled hq fun arr=>?_)
   refine wpAny_bind (wpAny_pure ?_)
   refine wpAny_bind (wpAny_pure ?_)
   refine wpAny_mono (fin _) (fun old s' hh=>?_) fun _ _ z=>z
   cases old with
   | none=>exact wpAny_bind (show wpAny _ _ point _ _ _ from wpAny_point (wpAny_pure ⟨_,rfl,hh⟩))
   | some l=>exact wpAny_bind (show wpAny _ _ (letGo _ _) _ _ _ from wpAny_letGo (wpAny_pure ⟨_,rfl,hh⟩))
  ·refine wpAny_bind (wpAny_pure ?_)
   refine wpAny_mono (fin _) (fun old s' hh=>?_) fun _ _ z=>z
   cases old with
   | none=>exact wpAny_bind (show wpAny _ _ point _ _ _ from wpAny_point (wpAny_pure ⟨_,rfl,hh⟩))
   | some l=>exact wpAny_bind (show wpAny _ _ (letGo _ _) _ _ _ from wpAny_letGo (wpAny_pure ⟨_,rfl,hh⟩))
end
section
variable {d:Wd} {c:Cx} {σ:St}
noncomputable abbrev SetIt (it:Addr) (At:Gh->Heap->Nat->Prop):Prop:=∀ g h k,At g h k->∃ o,h.get? it=some o/\o.cls = .type "set_iterator"
noncomputable abbrev PyIterG (d:Wd) (c:Cx) (xv:V) (σ:St) (XS:List V->Prop) (side:(Addr->Option AO)->Prop):Prop:=PyIterX d c xv σ XS side SetIt
theorem letOwned_set {target:Expr} {it:Addr} {v:Value} {o:Obj} {M:Model} {A:Around} {E:Value->Shared->Prop} {s:Shared} {Q:Unit->Shared->Prop} (ho:s.heap.get? it=some o) (hc:o.cls = .type "set_iterator") (hQ:Q () s):wpAny M A (letOwnedTupleGo target (.ref it) v) Q E s:=by
 unfold letOwnedTupleGo
 cases target<;>first
  | exact wpAny_pure hQ
  | (cases v<;>first | exact wpAny_pure hQ | (refine wpAny_bind (wpAny_load ho ?_);rw[hc];cases hd:o.data<;>first | exact wpAny_pure hQ | (dsimp only;rw[if_neg (by rw[Bool.and_eq_true];intro q;exact absurd q.1 (by decide +kernel))];exact wpAny_pure hQ)))
theorem WS_ForG {target iter:Expr} {body orelse:List Stmt} {pos:Pos} {K:Fl->St->Prop} (hX:∀ x σ,¬ c.X x σ) (hh:c.A.handled=none)
  (h:W d c iter σ fun xv σ1=>∃ XS side,PyIterG d c xv σ1 XS side/\∀ xs,XS xs->ForRun d c target body orelse side K xs σ1)
  (hs:∀ x,foldedSetIterable iter c.env x=pure x:=by intro _;rfl):WS d c (.For target iter body orelse pos) σ K :=
 WS_ForX hX hh h (fun it At hc g s k v E Q a q=>elEA (hc _ _ _ a) fun o q1 q2=>letOwned_set q1 q2 q) hs
theorem erase_perm {α:Type}:∀ (xs:List α) (i:Nat) (h:i < xs.length),(xs[i]::xs.eraseIdx i).Perm xs
 | x::xs,0,h=>by simp
 | x::xs,i+1,h=>by
  simp only[List.getElem_cons_succ,List.eraseIdx_cons_succ]
  exact (List.Perm.swap ..).trans ((erase_perm xs i (by simpa using h)).cons x)
theorem pick_go {α:Type} (next:Nat->Nat):∀ (n k:Nat) (left:List α) (out:Array α),left.length=n->(pickOrder.go next n k left out).toList.Perm (out.toList++left)
 | 0,k,left,out,h=>by
  have:left=[]:=List.eq_nil_of_length_eq_zero h
  subst this
  unfold pickOrder.go
  simp
 | n+1,k,left,out,h=>by
  obtain hlt:next k % left.length < left.length:=Nat.mod_lt _ (Y157 h)
  unfold pickOrder.go
  rw[List.getElem?_eq_getElem hlt]
  dsimp only
  refine (pick_go next n (k+1) _ _ (by rw[List.length_eraseIdx_of_lt hlt];exact Y158 h)).trans ?_
  simp only[Array.toList_push,List.append_assoc]
  exact List.Perm.append_left _ (erase_perm _ _ hlt)
theorem pick_perm {α:Type} (next:Nat->Nat) (xs:Array α):(pickOrder next xs).toList.Perm xs.toList:=by
 unfold pickOrder
 simpa using pick_go next xs.size 0 xs.toList #[] (by simp)
section
variable {prog:Program} {w:World} {E:Value->Shared->Prop} {A:Around}
theorem choose_any {src:Source} {n:Nat} {s:Shared} {Q:Nat->Shared->Prop} (hn:n≠0) (h:∀ i dr,i < n->Q i { s with drawn:=dr }):wpAny (model prog w) A (choose src n) Q E s:=fun Γ p hΓ=>by
 delta choose
 simp only[Sem.wp_choose]
 refine ⟨hn,?_⟩
 exact (wpAny_pure (M:=model prog w) (A:=A) (E:=E) (h _ _ (Nat.mod_lt _ (Nat.pos_of_ne_zero hn)))) Γ p hΓ
theorem draw_perm {α:Type}:∀ (n:Nat) (xs:List α) (s:Shared) (Q:List α->Shared->Prop),xs.length=n->(∀ ys dr,ys.Perm xs->Q ys { s with drawn:=dr })->wpAny (model prog w) A (drawOrder n xs) Q E s
 | 0,xs,s,Q,hn,h=>by
  obtain this:xs=[]:=List.eq_nil_of_length_eq_zero hn
  subst this
  delta drawOrder
  exact wpAny_pure (h [] s.drawn .nil)
 | n+1,[],s,Q,hn,h=>by cases hn
 | n+1,x::xs,s,Q,hn,h=>by
  unfold drawOrder
  refine wpAny_bind (choose_any (by simp) fun i dr hi=>?_)
  rw[List.getElem?_eq_getElem hi]
  dsimp only
  refine wpAny_bind (draw_perm n _ _ _ (by rw[List.length_eraseIdx_of_lt hi];exact Y158 hn) fun ys dr' hp=>?_)
  exact wpAny_pure (h _ dr' ((hp.cons _).trans (erase_perm _ _ hi)))
end
end
section
theorem entry_set_iter:entryFor table "set.__iter__" = some Builtin.«frozenset.__iter__» :=
 entryFor_alias (id':="frozenset.__iter__") (by kernel_rfl) rfl (by decide +kernel) (by kernel_rfl)
theorem entry_setiter_next:entryFor table "set_iterator.__next__" = some Builtin.«set_iterator.__next__»:=entryFor_of_tree (by kernel_rfl)
theorem slot_setiter_next:Slot "set_iterator" "__next__" "set_iterator.__next__" :=
 .of (owner:="set_iterator") (n:="__next__") (by rw[typeLookup_type,builtinLookup_eq_fast];kernel_rfl) (by decide +kernel) (by decide +kernel) (by decide +kernel)
  (by first | exact .inl (by decide +kernel) | exact .inr (by decide +kernel)) (by rw[isSubtype_type];kernel_rfl)
theorem slot_setiter_iter:Slot "set_iterator" "__iter__" "set_iterator.__iter__" :=
 .of (owner:="set_iterator") (n:="__iter__") (by rw[typeLookup_type,builtinLookup_eq_fast];kernel_rfl) (by decide +kernel) (by decide +kernel) (by decide +kernel)
  (by first | exact .inl (by decide +kernel) | exact .inr (by decide +kernel)) (by rw[isSubtype_type];kernel_rfl)
theorem entry_setiter_iter:entryFor table "set_iterator.__iter__" = some Builtin.«dict_keyiterator.__iter__» :=
 entryFor_alias (id':="dict_keyiterator.__iter__") (by kernel_rfl) rfl (by decide +kernel) (by kernel_rfl)
theorem args_setiter_next (a:Value):argsOk "set_iterator.__next__" ⟨[a],[]⟩:=by unfold argsOk;kernel_rfl
theorem args_setiter_iter (a:Value):argsOk "set_iterator.__iter__" ⟨[a],[]⟩:=by unfold argsOk;kernel_rfl
theorem RepVs.erase {g:Gh} {h:Heap}:∀ {vs:List V} {cs:List Value} (i:Nat),RepVs g h vs cs->RepVs g h (vs.eraseIdx i) (cs.eraseIdx i)
 | _,_,_,.nil=>.nil
 | _,_,0,.cons x r=>r
 | _,_,i+1,.cons x r=>.cons x (RepVs.erase i r)
theorem erase_map {α β:Type} (f:α->β):∀ (l:List α) (i:Nat),(l.eraseIdx i).map f=(l.map f).eraseIdx i
 | [],i=>by simp
 | x::l,0=>by simp
 | x::l,i+1=>by simp[erase_map f l i]
theorem pick_rel {g:Gh} {h:Heap} (next:Nat->Nat):∀ (n k:Nat) (l1:List V) (l2:List (Int×Value)) (o1:Array V) (o2:Array (Int×Value)),RepVs g h l1 (l2.map (·.2))->RepVs g h o1.toList (o2.toList.map (·.2)) ->
  RepVs g h (pickOrder.go next n k l1 o1).toList ((pickOrder.go next n k l2 o2).toList.map (·.2))
 | 0,k,l1,l2,o1,o2,hl,ho=>by delta pickOrder.go;exact ho
 | n+1,k,l1,l2,o1,o2,hl,ho=>by
  have hlen:l2.length=l1.length:=by obtain this:=hl.length;simp at this;exact Y189 this
  unfold pickOrder.go
  rw[hlen]
  cases h1:l1[next k % l1.length]? with
  | none =>
   obtain this:l2[next k % l1.length]? = none:=by rw[List.getElem?_eq_none_iff] at h1 ⊢;exact Y217 hlen h1
   rw[this];exact ho
  | some v =>
   refine elEA (hl.get h1) fun cv e1 rv=>?_
   rw[List.getElem?_map] at e1
   refine elEA (Option.map_eq_some_iff.mp e1) fun e e2 hq2=>?_
   subst hq2
   rw[e2]
   dsimp only
   refine pick_rel next n (k+1) _ _ _ _ ?_ ?_
   ·simp only[erase_map];exact hl.erase _
   ·simp only[Array.toList_push,Array.toList_push,List.map_append]
    exact ho.append (.cons rv .nil)
end
section
variable {d:Wd} {c:Cx} {σ:St}
section
variable {prog:Program} {w:World} {E:Value->Shared->Prop} {A:Around} {s:Shared}
noncomputable def setIt (first:Value) (k:Nat) (a:Addr) (n ep:Nat):Obj:={ cls:=.type "set_iterator",dict:=none,data:=.fields #[first,.int k 0,.ref a,.int n 0,.int ep 0],slots:=#[] }
theorem setnext_int {it a:Addr} {sl k n ep nx:Nat} {x:Value} {o:Obj} {ents:Array (Int×Value)} {t:SetTable} {Q:Option Value->Shared->Prop} (ho:s.heap.get? it=some (setIt (.int sl 0) k a n ep)) (ha:s.heap.get? a=some o) (hd:o.data = .set ents ep t) (hf:t.fits ents.size=true) (hn:ents.size=n)
  (hnext:∀ (A:Around) (E:Value->Shared->Prop) (Q':Option (Value×Nat)->Shared->Prop),Q' (some (x,nx)) s->wpAny (model prog w) A (setNext a sl k ep) Q' E s)
  (hQ:∀ h',h'.get? it=some (setIt (.int nx 0) (k+1) a n ep)->Heap.SameBut it s.heap h'->Q (some x) { s with heap:=h' }):wpAny (model prog w) A (pyNext (.ref it)) Q E s:=by
 obtain hT:s.TypeIs (.ref it) "set_iterator":=⟨_,ho,rfl⟩
 delta pyNext
 refine wpAny_bind (wpAny_attempt (wpAny_callSpecial?_slot (name:=Str.ofString "__next__") hT slot_setiter_next (wpAny_call_entry slot_setiter_next hT entry_setiter_next ?_ (args_setiter_next _))))
 refine (?_:wpAny _ _ (fieldsOf (.ref it) >>= _) _ _ s)
 refine wpAny_bind (wpAny_fieldsOf ho rfl ?_)
 dsimp only
 refine wpAny_bind (wpAny_setEntries_of ha hd hf ?_)
 simp only[hn]
 simp only[bne_self_eq_false,Bool.false_eq_true,if_false]
 refine (?_:wpAny _ _ (setNext a (sl:Int).toNat (k:Int).toNat (ep:Int).toNat >>= _) _ _ s)
 simp only[Int.toNat_natCast]
 refine wpAny_bind (hnext _ _ _ ?_)
 dsimp only
 refine wpAny_bind (wpAny_setField_rec ho (by simp[setIt]) fun h1 e1 s1=>?_)
 refine wpAny_bind (wpAny_setField_rec e1 (by simp) fun h2 e2 s2=>?_)
 refine wpAny_pure ⟨x,rfl,wpAny_pure (hQ h2 ?_ (s1.trans s2))⟩
 simp only[e2];rfl
theorem setnext_end {it a:Addr} {sl k n ep:Nat} {o:Obj} {ents:Array (Int×Value)} {t:SetTable} {Q:Option Value->Shared->Prop} (hh:A.handled=none) (ho:s.heap.get? it=some (setIt (.int sl 0) k a n ep)) (ha:s.heap.get? a=some o) (hd:o.data = .set ents ep t) (hf:t.fits ents.size=true) (hn:ents.size=n)
  (hnext:∀ (A:Around) (E:Value->Shared->Prop) (Q':Option (Value×Nat)->Shared->Prop),Q' none s->wpAny (model prog w) A (setNext a sl k ep) Q' E s)
  (hQ:∀ h',Heap.ExtBut it s.heap h'->Q none { s with heap:=h' }):wpAny (model prog w) A (pyNext (.ref it)) Q E s:=by
 obtain hT:s.TypeIs (.ref it) "set_iterator":=⟨_,ho,rfl⟩
 delta pyNext
 refine wpAny_bind (wpAny_attempt (wpAny_callSpecial?_slot (name:=Str.ofString "__next__") hT slot_setiter_next (wpAny_call_entry slot_setiter_next hT entry_setiter_next ?_ (args_setiter_next _))))
 refine (?_:wpAny _ _ (fieldsOf (.ref it) >>= _) _ _ s)
 refine wpAny_bind (wpAny_fieldsOf ho rfl ?_)
 dsimp only
 refine wpAny_bind (wpAny_setEntries_of ha hd hf ?_)
 simp only[hn]
 simp only[bne_self_eq_false,Bool.false_eq_true,if_false]
 refine (?_:wpAny _ _ (setNext a (sl:Int).toNat (k:Int).toNat (ep:Int).toNat >>= _) _ _ s)
 simp only[Int.toNat_natCast]
 refine wpAny_bind (hnext _ _ _ ?_)
 dsimp only
 refine wpAny_bind (wpAny_setField_rec ho (by simp[setIt]) fun h1 e1 s1=>?_)
 refine (?_:wpAny _ _ (newExc (.type "StopIteration") [] >>= _) _ _ _)
 refine wpAny_bind ?_
 simp only[newExc,newTuple]
 refine wpAny_bind (wpAny_newObj_type ?_ Y5)
 refine wpAny_bind (m:=firstArgMember _ _) (wpAny_of_eq (a:=Value.none) (by first | rfl | (simp only[firstArgMember];rfl)) ?_)
 refine wpAny_newObj_type ?_ (by size_fits)
 simp only[raiseNew]
 refine wpAny_bind (wpAny_handled ?_)
 rw[show A.in1.handled=none from hh]
 refine wpAny_bind (wpAny_pure (wpAny_throw ?_))
 refine wpAny_bind (wpAny_isInstance (T:="StopIteration") (b:=true) ⟨_,Heap.get?_push_size _ rfl,rfl⟩ isSubtype_stop ?_)
 exact wpAny_pure (hQ _ ((s1.extBut.push _).push _))
theorem setnext_drawn {it a tp:Addr} {k n ep pl m:Nat} {x:Value} {hsh:Int} {o:Obj} {ents:Array (Int×Value)} {t:SetTable} {places:Array Value} {Q:Option Value->Shared->Prop} (ho:s.heap.get? it=some (setIt (.ref tp) k a n ep)) (ha:s.heap.get? a=some o) (hd:o.data = .set ents ep t) (hf:t.fits ents.size=true) (hn:ents.size=n)
  (htp:IsT s.heap tp places m) (hp:places[k]? = some (.int pl 0)) (hx:ents[pl]? = some (hsh,x))
  (hQ:∀ h',h'.get? it=some (setIt (.ref tp) (k+1) a n ep)->Heap.SameBut it s.heap h'->Q (some x) { s with heap:=h' }):wpAny (model prog w) A (pyNext (.ref it)) Q E s:=by
 obtain hT:s.TypeIs (.ref it) "set_iterator":=⟨_,ho,rfl⟩
 delta pyNext
 refine wpAny_bind (wpAny_attempt (wpAny_callSpecial?_slot (name:=Str.ofString "__next__") hT slot_setiter_next (wpAny_call_entry slot_setiter_next hT entry_setiter_next ?_ (args_setiter_next _))))
 refine (?_:wpAny _ _ (fieldsOf (.ref it) >>= _) _ _ s)
 refine wpAny_bind (wpAny_fieldsOf ho rfl ?_)
 dsimp only
 refine wpAny_bind (wpAny_setEntries_of ha hd hf ?_)
 simp only[hn]
 simp only[bne_self_eq_false,Bool.false_eq_true,if_false]
 refine (?_:wpAny _ _ (seqItems? (.ref tp) >>= _) _ _ s)
 refine wpAny_bind (wpAny_seqItems htp rfl ?_)
 simp only[Int.toNat_natCast,hp]
 refine wpAny_bind ?_
 delta setNextDrawn
 refine wpAny_bind (wpAny_setState_of ha hd hf ?_)
 simp only[bne_self_eq_false,Bool.false_eq_true,if_false,Int.toNat_natCast,hx]
 refine wpAny_pure ?_
 refine wpAny_bind (wpAny_setField_rec ho (by simp) fun h1 e1 s1=>?_)
 refine wpAny_pure ⟨x,rfl,wpAny_pure (hQ h1 ?_ s1)⟩
 simp only[e1];rfl
theorem setnext_drawn_end {it a tp:Addr} {k n ep m:Nat} {o:Obj} {ents:Array (Int×Value)} {t:SetTable} {places:Array Value} {Q:Option Value->Shared->Prop} (hh:A.handled=none) (ho:s.heap.get? it=some (setIt (.ref tp) k a n ep)) (ha:s.heap.get? a=some o) (hd:o.data = .set ents ep t) (hf:t.fits ents.size=true) (hn:ents.size=n)
  (htp:IsT s.heap tp places m) (hp:places[k]? = none)
  (hQ:∀ h',Heap.ExtBut it s.heap h'->Q none { s with heap:=h' }):wpAny (model prog w) A (pyNext (.ref it)) Q E s:=by
 obtain hT:s.TypeIs (.ref it) "set_iterator":=⟨_,ho,rfl⟩
 delta pyNext
 refine wpAny_bind (wpAny_attempt (wpAny_callSpecial?_slot (name:=Str.ofString "__next__") hT slot_setiter_next (wpAny_call_entry slot_setiter_next hT entry_setiter_next ?_ (args_setiter_next _))))
 refine (?_:wpAny _ _ (fieldsOf (.ref it) >>= _) _ _ s)
 refine wpAny_bind (wpAny_fieldsOf ho rfl ?_)
 dsimp only
 refine wpAny_bind (wpAny_setEntries_of ha hd hf ?_)
 simp only[hn]
 simp only[bne_self_eq_false,Bool.false_eq_true,if_false]
 refine (?_:wpAny _ _ (seqItems? (.ref tp) >>= _) _ _ s)
 refine wpAny_bind (wpAny_seqItems htp rfl ?_)
 simp only[Int.toNat_natCast,hp]
 refine wpAny_bind (wpAny_setField_rec ho (by simp) fun h0 e0 s0=>?_)
 refine wpAny_bind (wpAny_setField_rec e0 (by simp) fun h1 e1 s1=>?_)
 refine (?_:wpAny _ _ (newExc (.type "StopIteration") [] >>= _) _ _ _)
 refine wpAny_bind ?_
 simp only[newExc,newTuple]
 refine wpAny_bind (wpAny_newObj_type ?_ Y5)
 refine wpAny_bind (m:=firstArgMember _ _) (wpAny_of_eq (a:=Value.none) (by first | rfl | (simp only[firstArgMember];rfl)) ?_)
 refine wpAny_newObj_type ?_ (by size_fits)
 simp only[raiseNew]
 refine wpAny_bind (wpAny_handled ?_)
 rw[show A.in1.handled=none from hh]
 refine wpAny_bind (wpAny_pure (wpAny_throw ?_))
 refine wpAny_bind (wpAny_isInstance (T:="StopIteration") (b:=true) ⟨_,Heap.get?_push_size _ rfl,rfl⟩ isSubtype_stop ?_)
 exact wpAny_pure (hQ _ (((s0.trans s1).extBut.push _).push _))
theorem next_small {a:Addr} {ep k:Nat} {o:Obj} {ents:Array (Int×Value)} {t:SetTable} {sl:Nat} {Q:Option (Value×Nat)->Shared->Prop} (ha:s.heap.get? a=some o) (hd:o.data = .set ents ep t) (hf:t.fits ents.size=true) (hb:w.params.followText "set-order" = false) (hl:t.led=true) (hz:ents.size<=1)
  (h:Q (match ents[SetTable.below t.place sl]?,t.place[SetTable.below t.place sl]? with | some (_,x),some j=>some (x,j+1) | _,_=>none) s):wpAny (model prog w) A (setNext a sl k ep) Q E s:=by
 unfold setNext
 refine wpAny_bind (wpAny_setState_of ha hd hf ?_)
 dsimp only
 refine wpAny_bind (byText_ask ?_)
 rw[hb]
 simp only[Bool.false_eq_true,if_false]
 obtain hdr:¬ ((!t.plain&&decide (ents.size > 1))=true):=by
  intro z
  simp only[Bool.and_eq_true,decide_eq_true_eq] at z
  omega
 split
 ·rename_i z;exact absurd z hdr
 ·obtain hml:¬ ((!t.led && !ents.isEmpty)=true):=by rw[hl];simp
  refine wpAny_bind (m:=if (!t.led && !ents.isEmpty)=true then unsupported "set:maker-not-led" else pure ()) ?_
  rw[if_neg hml]
  refine wpAny_pure ?_
  exact wpAny_pure h
theorem next_text {a:Addr} {ep k:Nat} {o:Obj} {ents:Array (Int×Value)} {t:SetTable} {sl:Nat} {Q:Option (Value×Nat)->Shared->Prop} (ha:s.heap.get? a=some o) (hd:o.data = .set ents ep t) (hf:t.fits ents.size=true) (hb:w.params.followText "set-order" = true)
  (h:Q (((pickOrder (w.params.setOrder a ep) ents)[k]?).map fun e=>(e.2,sl)) s):wpAny (model prog w) A (setNext a sl k ep) Q E s:=by
 unfold setNext
 refine wpAny_bind (wpAny_setState_of ha hd hf ?_)
 dsimp only
 refine wpAny_bind (byText_ask ?_)
 rw[hb]
 simp only[if_true,bne_self_eq_false,Bool.false_eq_true,if_false]
 delta setWalk
 refine wpAny_bind (wpAny_bind (wpAny_setState_of ha hd hf ?_))
 dsimp only
 refine wpAny_bind (byText_ask ?_)
 simp only[hb]
 simp only[if_true]
 refine wpAny_bind (wpAny_askSetting (wpAny_pure ?_))
 exact wpAny_pure h
end
end
section
variable {d:Wd} {c:Cx} {σ:St}
theorem Rep.drew {g:Gh} {A:Around} {env:Env} {s:Shared} (r:Rep d g A env σ s) (dr:Drawn):Rep d g A env σ { s with drawn:=dr } :=
 ⟨elEEE r.sh fun h _ tk e=>⟨h,dr,tk,by rw[e]⟩,r.base,r.fr,r.frs,r.ob,r.ok⟩
structure SetSees (d:Wd) (g:Gh) (s:Shared) (a:Addr) (es:List V) (ep:Nat) (pl:List Nat) (o:Obj) (ents:Array (Int×Value)) (t:SetTable):Prop where
 ho:s.heap.get? a=some o
 hex:o.ExactSet
 hd:o.data = .set ents ep t
 hrs:RepVs g s.heap es (ents.toList.map (·.2))
 hled:t.led = !d.w.params.followText "set-order"
 hpl:t.place.toList=pl
 hf:t.fits ents.size=true
 hn:ents.size=es.length
 hlen:pl.length=es.length
 h4:es.length<=4
 hplain:es≠[]->t.plain=false
theorem Rep.sees {g:Gh} {A:Around} {env:Env} {s:Shared} {a:Addr} {es:List V} {ep:Nat} {pl:List Nat} (r:Rep d g A env σ s) (hp:σ.hp a=some (.setP es ep pl)):∃ o ents t,SetSees d g s a es ep pl o ents t:=by
 obtain ow:=(r.ob a _ hp).1;obtain hne:=(r.ob a _ hp).2.1;obtain hbs:=(r.ob a _ hp).2.2.1;obtain zz0:=(r.ob a _ hp).2.2.2
 refine elEEEAAAA zz0 fun o ents t ho hex hd hrs zz1=>?_
 refine elAAAAAA zz1 fun hled hm hdm hpl hlen h4 hplain=>?_
 have hents:ents.size=es.length:=by obtain this:=hrs.length;simp at this;exact Y189 this
 have hplz:t.place.size=ents.size:=by rw[<- Array.length_toList,hpl,hlen,hents]
 obtain hfit:t.fits ents.size=true:=by
  simp only[SetTable.fits,SetTable.fill,hdm,hm,hplz,Bool.and_eq_true,beq_iff_eq,decide_eq_true_eq,true_and]
  show ents.size+0<=7;exact Y203 h4 hents
 exact⟨o,ents,t,ho,hex,hd,hrs,hled,hpl,hfit,hents,hlen,h4,hplain⟩
theorem self_setIt {it a:Addr} {first:Value} {k n ep:Nat} {A:Around} {s:Shared} {Q:Value->Shared->Prop} {E:Value->Shared->Prop} (ho:s.heap.get? it=some (setIt first k a n ep)) (h:Q (.ref it) s):wpAny (model d.prog d.w) A (pyIter (.ref it)) Q E s:=by
 obtain hT:s.TypeIs (.ref it) "set_iterator":=⟨_,ho,rfl⟩
 refine wpAny_pyIter_slot hT slot_setiter_iter (wpAny_call_entry slot_setiter_iter hT entry_setiter_iter ?_ (args_setiter_iter _))
 exact wpAny_bind (wpAny_pure (wpAny_pure ⟨_,rfl,"set_iterator",_,hT,slot_setiter_next.lookup,h⟩))
theorem spec_text {a it:Addr} {es:List V} {ep:Nat} {pl:List Nat} (hb:d.w.params.followText "set-order" = true) :
  ItSpec d it (pickOrder (d.w.params.setOrder a ep) es.toArray).toList (fun hp=>hp a=some (.setP es ep pl)) (fun g h k=>g it = .prot/\h.get? it=some (setIt (.int (0:Nat) 0) k a es.length ep)):=by
 refine ⟨?_,?_,?_,?_,?_⟩
 ·intro g h k zr3
  obtain h1:=zr3.1;obtain h2:=zr3.2
  try clear zr3
  exact⟨h1,_,h2,fun v q=>by cases q⟩
 ·intro p g h g' h' k zr6 hp hf kp
  obtain h1:=zr6.1;obtain h2:=zr6.2
  try clear zr6
  exact⟨(kp.prot _ _ hp h1 h2).1,(kp.prot _ _ hp h1 h2).2⟩
 ·intro c g s σ k x r hp zr8 hx Q E hQ
  obtain h1:=zr8.1;obtain h2:=zr8.2
  try clear zr8
  refine elEEE (r.sees hp) fun o ents t S=>?_
  obtain rel:=pick_rel (d.w.params.setOrder a ep) ents.size 0 es ents.toList #[] #[] S.hrs .nil
  obtain hlen:es.toArray.size=ents.size:=by simp only[S.hn];simp
  obtain hx':(pickOrder.go (d.w.params.setOrder a ep) ents.size 0 es #[]).toList[k]? = some x:=by
   have:=hx;unfold pickOrder at this;rw[hlen] at this;simpa using this
  refine elEA (rel.get hx') fun cv e1 rv=>?_
  rw[List.getElem?_map] at e1
  refine elEA (Option.map_eq_some_iff.mp e1) fun e e2 hq2=>?_
  subst hq2
  obtain e3:(pickOrder (d.w.params.setOrder a ep) ents)[k]? = some e:=by unfold pickOrder;rw[<- Array.getElem?_toList];exact e2
  refine setnext_int h2 S.ho S.hd S.hf S.hn (x:=e.2) (nx:=0) (fun A E Q' hq=>next_text S.ho S.hd S.hf hb (by rw[e3];exact hq)) fun h' e4 hs=>?_
  exact hQ _ h' s.toks (rv.mono (frz_ext h1 hs.extBut)) ⟨h1,e4⟩ hs.extBut
 ·intro c g s σ k r hh hp zr8 hx Q E hQ
  obtain h1:=zr8.1;obtain h2:=zr8.2
  try clear zr8
  refine elEEE (r.sees hp) fun o ents t S=>?_
  obtain hz:((pickOrder (d.w.params.setOrder a ep) ents)[k]?)=none:=by
   simp only[Array.getElem?_eq_none_iff]
   rw[List.getElem?_eq_none_iff] at hx
   obtain l1:=(pick_perm (d.w.params.setOrder a ep) es.toArray).length_eq
   obtain l2:=(pick_perm (d.w.params.setOrder a ep) ents).length_eq
   obtain this:=S.hn
   simp only[Array.length_toList,List.size_toArray] at l1 l2 hx
   exact Y248 hx l1 l2 this
  exact setnext_end hh h2 S.ho S.hd S.hf S.hn (fun A E Q' hq=>next_text S.ho S.hd S.hf hb (by simp only[hz];exact hq)) fun h' hs=>hQ h' s.toks hs
 ·intro A g s k zr4 Q E hQ
  obtain h1:=zr4.1;obtain h2:=zr4.2
  try clear zr4
  exact self_setIt h2 hQ
theorem below0 {xs:Array Nat} {j:Nat} (h:xs = #[]):SetTable.below xs j=0:=by subst h;rfl
theorem below1a {i:Nat}:SetTable.below #[i] 0=0:=by
 unfold SetTable.below
 refine (?_:SetTable.below.go #[i] 0 1 0 1=0)
 unfold SetTable.below.go
 rw[if_pos (by walk_at "o")]
 refine (?_:(if i < 0 then _ else _)=0)
 rw[if_neg Y110];delta SetTable.below.go;rfl
theorem below1b {i:Nat}:SetTable.below #[i] (i+1)=1:=by
 unfold SetTable.below
 refine (?_:SetTable.below.go #[i] (i+1) 1 0 1=1)
 unfold SetTable.below.go
 rw[if_pos (by walk_at "o")]
 refine (?_:(if i < i+1 then _ else _)=1)
 rw[if_pos Y60];delta SetTable.below.go;rfl
theorem spec_small {a it:Addr} {es:List V} {ep:Nat} {pl:List Nat} (hb:d.w.params.followText "set-order" = false) (hz:es.length<=1) :
  ItSpec d it es (fun hp=>hp a=some (.setP es ep pl)) (fun g h k=>g it = .prot/\∃ sl:Nat,h.get? it=some (setIt (.int sl 0) k a es.length ep)/\k<=es.length/\(k=0->sl=0)/\(k=1->∃ j,pl=[j]/\sl=j+1)):=by
 refine ⟨?_,?_,?_,?_,?_⟩
 ·intro g h k zr3
  refine elAEA zr3 fun h1 sl h2 uu=>?_
  try clear zr3
  exact⟨h1,_,h2,fun v q=>by cases q⟩
 ·intro p g h g' h' k zr6 hp hf kp
  refine elAEA zr6 fun h1 sl h2 h3=>?_
  try clear zr6
  exact⟨(kp.prot _ _ hp h1 h2).1,sl,(kp.prot _ _ hp h1 h2).2,h3⟩
 ·intro c g s σ k x r hp zr8 hx Q E hQ
  refine elAEAA zr8 fun h1 sl h2 h3 zz0=>?_
  refine elA zz0 fun h4 h5=>?_
  try clear zr8
  refine elEEE (r.sees hp) fun o ents t S=>?_
  obtain hk:k=0:=by obtain this:=(List.getElem?_eq_some_iff.mp hx).1;exact Y191 hz this
  subst hk
  obtain rfl:=h4 rfl
  have h1z:es.length=1:=by obtain this:=(List.getElem?_eq_some_iff.mp hx).1;exact Y73 hz this
  refine elEA (S.hrs.get hx) fun cv e1 rv=>?_
  rw[List.getElem?_map] at e1
  refine elEA (Option.map_eq_some_iff.mp e1) fun e e2 hq2=>?_
  subst hq2
  obtain e3:ents[0]? = some e:=by rw[<- Array.getElem?_toList];exact e2
  have hpl1:pl.length=1:=by simp only[S.hlen,h1z]
  obtain⟨j,rfl⟩:∃ j,pl=[j]:=by
   cases pl with
   | nil=>cases hpl1
   | cons j pl=>cases pl with
    | nil=>exact⟨j,rfl⟩
    | cons _ _=>simp at hpl1
  obtain hplc:t.place = #[j]:=by obtain this:=S.hpl;rw[<- Array.toArray_toList (xs:=t.place),this]
  refine setnext_int h2 S.ho S.hd S.hf S.hn (x:=e.2) (nx:=j+1) (fun A E Q' hq=>next_small S.ho S.hd S.hf hb (by simp only[S.hled,hb];rfl) (by rw[S.hn];exact hz) ?_) fun h' e4 hs=>?_
  ·rw[hplc,below1a,e3];exact hq
  ·exact hQ _ h' s.toks (rv.mono (frz_ext h1 hs.extBut)) ⟨h1,j+1,e4,Y61 h1z,fun q=>(Y2 q).elim,fun _=>⟨j,rfl,rfl⟩⟩ hs.extBut
 ·intro c g s σ k r hh hp zr8 hx Q E hQ
  refine elAEAA zr8 fun h1 sl h2 h3 zz0=>?_
  refine elA zz0 fun h4 h5=>?_
  try clear zr8
  refine elEEE (r.sees hp) fun o ents t S=>?_
  rw[List.getElem?_eq_none_iff] at hx
  refine setnext_end hh h2 S.ho S.hd S.hf S.hn (fun A E Q' hq=>next_small S.ho S.hd S.hf hb (by simp only[S.hled,hb];rfl) (by simp only[S.hn];exact hz) ?_) fun h' hs=>hQ h' s.toks hs
  obtain hnone:ents[SetTable.below t.place sl]? = none:=by
   simp only[Array.getElem?_eq_none_iff,S.hn]
   by_cases hk:k=0
   ·subst hk;exact Y160 hx
   ·refine elEA (h5 (Y192 hz h3 hk)) fun j hq1 hq2=>?_;subst hq1;subst hq2
    obtain hplc:t.place = #[j]:=by obtain this:=S.hpl;rw[<- Array.toArray_toList (xs:=t.place),this]
    simp only[hplc,below1b];exact Y75 hz
  rw[hnone];exact hq
 ·intro A g s k zr4 Q E hQ
  refine elAEA zr4 fun h1 sl h2 uu=>?_
  try clear zr4
  exact self_setIt h2 hQ
theorem spec_drawn {a it tp:Addr} {es:List V} {ep:Nat} {pl:List Nat} {ord:List Nat} {m:Nat} (hord:ord.Perm (List.range es.length)) :
  ItSpec d it (ord.map fun i=>(es[i]?).getD .none) (fun hp=>hp a=some (.setP es ep pl)) (fun g h k=>g it = .prot/\h.get? it=some (setIt (.ref tp) k a es.length ep)/\g tp = .frz/\IsT h tp (ord.map fun i=>Value.int (i:Nat) 0).toArray m):=by
 refine ⟨?_,?_,?_,?_,?_⟩
 ·intro g h k zr3
  obtain h1:=zr3.1;obtain h2:=zr3.2.1
  try clear zr3
  exact⟨h1,_,h2,fun v q=>by cases q⟩
 ·intro p g h g' h' k zr6 hp hf kp
  obtain h1:=zr6.1;obtain h2:=zr6.2.1;obtain h3:=zr6.2.2.1;obtain h4:=zr6.2.2.2
  try clear zr6
  exact⟨(kp.prot _ _ hp h1 h2).1,(kp.prot _ _ hp h1 h2).2,(kp.fz hf _ _ h3 h4).1,(kp.fz hf _ _ h3 h4).2⟩
 ·intro c g s σ k x r hp zr8 hx Q E hQ
  refine elAAA zr8 fun h1 h2 h3 h4=>?_
  try clear zr8
  refine elEEE (r.sees hp) fun o ents t S=>?_
  rw[List.getElem?_map] at hx
  refine elEA (Option.map_eq_some_iff.mp hx) fun i e1 hq2=>?_
  subst hq2
  have hi:i < es.length:=by
   obtain this:=hord.mem_iff.mp (List.mem_of_getElem? e1)
   simpa using this
  rw[List.getElem?_eq_getElem hi,Option.getD_some] at hQ
  refine elEA (S.hrs.get (List.getElem?_eq_getElem hi)) fun cv e2 rv=>?_
  rw[List.getElem?_map] at e2
  refine elEA (Option.map_eq_some_iff.mp e2) fun e e3 hq2=>?_
  subst hq2
  have e4:ents[i]? = some (e.1,e.2):=by rw[<- Array.getElem?_toList];exact e3
  refine setnext_drawn h2 S.ho S.hd S.hf S.hn h4 (pl:=i) (by simp[e1]) e4 fun h' e5 hs=>?_
  obtain fe:=frz_ext h1 hs.extBut
  exact hQ _ h' s.toks (rv.mono fe) ⟨h1,e5,h3,(fe _ _ h3 h4).2⟩ hs.extBut
 ·intro c g s σ k r hh hp zr8 hx Q E hQ
  refine elAAA zr8 fun h1 h2 h3 h4=>?_
  try clear zr8
  refine elEEE (r.sees hp) fun o ents t S=>?_
  simp only[List.getElem?_map] at hx
  obtain hx':ord[k]? = none:=by simpa using hx
  exact setnext_drawn_end hh h2 S.ho S.hd S.hf S.hn h4 (by simp[hx']) fun h' hs=>hQ h' s.toks hs
 ·intro A g s k zr4 Q E hQ
  obtain h1:=zr4.1;obtain h2:=zr4.2.1
  try clear zr4
  exact self_setIt h2 hQ
theorem range_get (es:List V):(List.range es.length).map (fun i=>(es[i]?).getD .none)=es:=by
 refine List.ext_getElem (by simp) fun i h1 h2=>?_
 simp[List.getElem?_eq_getElem h2]
theorem setDrawn_is {prog:Program} {w:World} {A:Around} {E:Value->Shared->Prop} {s:Shared} {a:Addr} {o:Obj} {ents:Array (Int×Value)} {ep:Nat} {t:SetTable} {Q:Bool->Shared->Prop} (ha:s.heap.get? a=some o) (hd:o.data = .set ents ep t) (hf:t.fits ents.size=true)
  (h:Q (!w.params.followText "set-order" && (!t.plain&&decide (ents.size > 1))) s):wpAny (model prog w) A (setDrawn a) Q E s:=by
 unfold setDrawn
 refine wpAny_bind (wpAny_setState_of ha hd hf ?_)
 dsimp only
 refine wpAny_bind (byText_ask ?_)
 exact wpAny_pure h
theorem iter_setP {a:Addr} {es:List V} {ep:Nat} {pl:List Nat} (hp:σ.hp a=some (.setP es ep pl)):PyIterG d c (.obj a) σ (fun xs=>xs.Perm es) (fun hp=>hp a=some (.setP es ep pl)):=⟨hp,fun g s x r rx Q E h=>by
 rw[rx.r]
 ·
  refine elEEE (r.sees hp) fun o ents t S=>?_
  obtain hT:s.TypeIs (.ref a) "set":=⟨o,S.ho,S.hex.1⟩
  refine wpAny_pyIter_slot hT F.slot_set_iter (wpAny_call_entry F.slot_set_iter hT entry_set_iter ?_ (F.args_set_iter_1 _))
  delta Builtin.«frozenset.__iter__» Builtin.Frozenset.slot0 slotArgs
  simp only[List.isEmpty_nil,Bool.not_true,Bool.false_eq_true,↓reduceIte,bind_assoc,List.length_nil,bne_self_eq_false]
  delta Builtin.Frozenset.addrOf Builtin.Frozenset.sizeOf
  refine wpAny_bind (wpAny_pure ?_)
  try dsimp only
  refine wpAny_bind (wpAny_pure ?_)
  refine wpAny_bind (wpAny_bind (wpAny_setEntries_of S.ho S.hd S.hf (wpAny_pure ?_)))
  refine wpAny_bind (setDrawn_is S.ho S.hd S.hf ?_)
  by_cases hdr:(!d.w.params.followText "set-order" && (!t.plain&&decide (ents.size > 1)))=true
  ·simp only[hdr]
   simp only[if_true]
   refine wpAny_bind (draw_perm ents.size (List.range ents.size) s _ (by simp) fun ord dr hord=>?_)
   refine wpAny_bind (wpAny_newTuple (s:={ s with drawn:=dr }) ?_ (by simp only[List.length_map,hord.length_eq,List.length_range,S.hn,sizeLine_eq];obtain this:=S.h4;walk_at "o"))
   obtain r0:=r.drew dr
   obtain r1:=r0.pushed { cls:=.type "tuple",data:=.seq (ord.map fun (i:Nat)=>rawInt i).toArray } .frz s.toks
   obtain k1:=(r0.chPush { cls:=.type "tuple",data:=.seq (ord.map fun (i:Nat)=>rawInt i).toArray } .frz).kp
   obtain S1:=(r1.sees hp)
   refine elEEE S1 fun o' ents' t' S'=>?_
   try clear S1
   delta setEpoch
   refine wpAny_bind (wpAny_bind (wpAny_setState_of S'.ho S'.hd S'.hf (wpAny_pure ?_)))
   simp only[S.hn]
   refine wpAny_bind (wpAny_newObj_type (wpAny_pure ⟨_,rfl,"set_iterator",_,⟨_,Heap.get?_push_size _ rfl,rfl⟩,slot_setiter_next.lookup,?_⟩) Y1)
   obtain r2:=(r1.pushIt (setIt (.ref s.heap.objs.size) 0 a es.length ep)).1;obtain k2:=(r1.pushIt (setIt (.ref s.heap.objs.size) 0 a es.length ep)).2
   simp only[S.hn] at hord
   obtain hf0:(gset g s.heap.objs.size .frz) s.heap.objs.size = .frz:=gset_self ..
   obtain ht0:IsT (s.heap.push { cls:=.type "tuple",data:=.seq (ord.map fun (i:Nat)=>rawInt i).toArray }) s.heap.objs.size (ord.map fun i=>Value.int (i:Nat) 0).toArray 0:=Heap.get?_push_size _ rfl
   obtain f2:=(k2.frz _ _ hf0 ht0).1;obtain t2:=(k2.frz _ _ hf0 ht0).2
   refine h _ ?_ _ _ _ _ (spec_drawn (tp:=s.heap.objs.size) (m:=0) hord) (fun g h k q=>⟨_,q.2.1,rfl⟩) r2 ⟨gset_self ..,Heap.get?_push_size _ rfl,f2,t2⟩ (k1.trans k2) ?_
   ·obtain this:=hord.map fun i=>(es[i]?).getD V.none
    simp only[range_get] at this
    exact this
   ·cases q:s.heap.get? (s.heap.push { cls:=.type "tuple",data:=.seq (ord.map fun (i:Nat)=>rawInt i).toArray }).objs.size with
    | none=>rfl
    | some o =>
     obtain h1:=Heap.lt_size q;obtain h2:(s.heap.push { cls:=.type "tuple",data:=.seq (ord.map fun (i:Nat)=>rawInt i).toArray }).objs.size=s.heap.objs.size+1:=by simp[Heap.push]
     simp only[h2] at h1;exact absurd h1 (Nat.not_lt.mpr (Nat.le_succ _))
  ·simp only[Bool.eq_false_iff.mpr hdr]
   simp only[Bool.false_eq_true,if_false]
   refine wpAny_bind (wpAny_pure ?_)
   delta setEpoch
   refine wpAny_bind (wpAny_bind (wpAny_setState_of S.ho S.hd S.hf (wpAny_pure ?_)))
   simp only[S.hn]
   refine wpAny_bind (wpAny_newObj_type (wpAny_pure ⟨_,rfl,"set_iterator",_,⟨_,Heap.get?_push_size _ rfl,rfl⟩,slot_setiter_next.lookup,?_⟩) Y1)
   obtain r':=(r.pushIt (setIt (.int (0:Nat) 0) 0 a es.length ep)).1;obtain k:=(r.pushIt (setIt (.int (0:Nat) 0) 0 a es.length ep)).2
   cases hb:d.w.params.followText "set-order" with
   | true =>
    refine h _ ?_ s.heap.objs.size _ (gset g s.heap.objs.size .prot) _ (spec_text (es:=es) (ep:=ep) (pl:=pl) (a:=a) hb) (fun g h k q=>⟨_,q.2,rfl⟩) r' ⟨gset_self ..,Heap.get?_push_size _ rfl⟩ k (get_none_size _)
    simpa using pick_perm (d.w.params.setOrder a ep) es.toArray
   | false =>
    obtain hz:es.length<=1:=by
     refine Classical.byContradiction fun hn=>hdr ?_
     obtain hne:es≠[]:=fun e=>by rw[e] at hn;simp at hn
     simp only[hb,S.hplain hne,S.hn]
     simp;exact Y112 hn
    exact h _ (List.Perm.refl _) s.heap.objs.size _ (gset g s.heap.objs.size .prot) _ (spec_small (es:=es) (ep:=ep) (pl:=pl) (a:=a) hb hz) (fun g h k ⟨_,sl,q,_⟩=>⟨_,q,rfl⟩) r' ⟨gset_self ..,0,Heap.get?_push_size _ rfl,Nat.zero_le _,fun _=>rfl,fun q=>absurd q (by decide)⟩ k (get_none_size _)⟩
end
section
variable {d:Wd} {c:Cx} {σ:St}
noncomputable def emptyOf (sl:Bool) (C:Addr):AO:=if sl=true then .slots C [] else .inst C []
theorem RepO.empty (sl:Bool) {g:Gh} {h:Heap} {x dx C:Addr} (ho:h.get? x=some (instObj C dx)) (hg:g dx = .own x) (hn:dx≠x) (hd:h.get? dx=some (dictOf [] 0)):RepO d g h x (emptyOf sl C):=by
 cases sl with
 | false=>exact⟨dx,[],0,ho,hg,hn,hd,.nil⟩
 | true=>exact⟨dx,[],0,#[],ho,hg,hn,hd,rfl,.nil⟩
theorem Rep.newInst (sl:Bool) {g:Gh} {A:Around} {env:Env} {s:Shared} (r:Rep d g A env σ s) (C:Addr):∃ g',σ.hp (s.heap.objs.size+1)=none /\
  Rep d g' A env (σ.upd (s.heap.objs.size+1) (emptyOf sl C)) { s with heap:=(s.heap.push emptyDict).push (instObj C s.heap.objs.size) }/\Kp g s.heap g' ((s.heap.push emptyDict).push (instObj C s.heap.objs.size)):=by
 obtain hsz:(s.heap.push emptyDict).objs.size=s.heap.objs.size+1:=Heap.size_push ..
 obtain r1:=r.pushed emptyDict (.own (s.heap.objs.size+1)) s.toks
 obtain k1:=(r.chPush emptyDict (.own (s.heap.objs.size+1))).kp
 obtain f1:σ.hp (s.heap.objs.size+1)=none:=by obtain this:=r1.fresh;rwa [hsz] at this
 obtain hd1:(s.heap.push emptyDict).get? s.heap.objs.size=some (dictOf [] 0):=Heap.get?_push_size _ rfl
 obtain k2:=(r1.chPush (instObj C s.heap.objs.size) (.own (s.heap.push emptyDict).objs.size)).kp
 obtain ne:s.heap.objs.size≠s.heap.objs.size+1:=Y70
 obtain r2:=r1.made (instObj C s.heap.objs.size) (emptyOf sl C) s.toks (RepO.empty sl (dx:=s.heap.objs.size) (Heap.get?_push_size _ rfl) (by
  show gset _ _ _ _=_
  unfold gset
  rw[if_neg (by rw[hsz];exact ne),if_pos rfl,hsz]) (by simp only[hsz];exact ne) (Heap.get?_push_of_some _ hd1))
 dsimp only at r2
 rw[hsz] at r2
 refine ⟨_,f1,r2,k1.trans ?_⟩
 rw[hsz] at k2
 exact k2
theorem Rm.make {A:Around} {C:Addr} {xs:List Value} {n:Nat} (R:Rm A (n+1)):Rm (A.under (.builtin "type.__call__" ⟨.ref C::xs,[]⟩)) n :=
 ⟨by obtain this:=R.depth;show A.depth+1+n<=_;exact Y130 this,by obtain this:=R.units;show A.units+1+20 * n<=_;exact Y138 this,R.handled⟩
theorem Rep.around {g:Gh} {A A':Around} {env:Env} {s:Shared} (r:Rep d g A env σ s) (h:A'.frames=A.frames):Rep d g A' env σ s:=⟨r.sh,r.base,r.fr,h ▸ r.frs,r.ob,r.ok⟩
theorem call_inst (sl:Bool) {C fI:Addr} {vs:List V} {n:Nat} {K:V->St->Prop} (R:Rm c.A (n+1)) (hm:makesIn d.K C=true) (hi:findIn d.K (.ref C) "__init__" = some (some (.ref fI))) (hf:typeIn d.K (.ref fI)=some (.type "function"))
  (h:∀ A' x,Rm A' n->σ.hp x=none->CodeV d ⟨A',c.env,c.X⟩ (.ref fI) (.obj x::vs) [] (σ.upd x (emptyOf sl C)) fun v σ'=>v = .none/\K (.obj x) σ'):CallV d c (.ref C) vs [] σ K:=fun g s xs ys r rv rk=>by
 cases rk
 refine wpAny_call ?_
 refine elEEE r.sh fun hh dr tk hq3=>?_
 subst hq3
 refine elEAA (r.newInst sl C) fun g' f1 r1 k1=>?_
 refine make_core (makes_of r.inK hm) (looks_findIn r.inK hi) (fun self=>bind_fn r.inK self hf) (.inl rfl) ?_
 refine codeAny_mono (h (c.A.under (.builtin "type.__call__" ⟨.ref C::xs,[]⟩)) _ R.make f1 g' _ (.ref (hh.objs.size+1)::xs) [] (r1.around rfl) (.cons (.raw _) (rv.kp k1)) .nil) fun rr s' z=>?_
 rcases rr with e | (v | _ | _ | _)
 ·refine elEEEAAA z fun g2 σ2 x h1 h2 h3 h4=>?_;try clear z
  exact⟨g2,σ2,x,h1.around rfl,k1.trans h2,h3,h4⟩
 ·exact z.elim
 ·exact z.elim
 ·exact z.elim
 ·refine elEEEAAAA z fun g2 b σ2 h1 h2 h3 hq6 h4=>?_;try clear z;subst hq6
  cases h3
  exact⟨rfl,g2,_,σ2,h1.around rfl,k1.trans h2,.raw _,h4⟩
end
section
variable {d:Wd} {c:Cx} {σ:St}
structure Fm (c:Cx):Prop where
 fr:c.env.frame=some c.env.locals
 top:∀ fs,c.A.frames=some fs->∃ outer,fs=c.env::outer
theorem Rep.pos {g:Gh} {A:Around} {env:Env} {s:Shared} (r:Rep d g A env σ s) {b:Addr} (h:d.hB.objs.size<=b):b≠0:=fun q=>by
 obtain h1:d.K.lookup 40=some (o40 d.w.params):=by kernel_rfl
 obtain h3:40 < d.hB.objs.size:=Heap.lt_size (r.ok.inK _ _ h1)
 simp only[q] at h
 exact absurd (Nat.lt_of_lt_of_le h3 h) (Nat.not_lt_zero _)
theorem Ns.slots {h h':Heap} {L:Addr} {m:Str->Option Value} (x:h.Ns L m) (k:∀ o,h.get? L=some o->∃ sl,h'.get? L=some { o with slots:=sl }):h'.Ns L m:=by
 refine elEEEAA x fun o es ep ho hd z=>?_
 try clear x
 refine elE (k o ho) fun sl e=>?_
 exact⟨_,es,ep,e,hd,z⟩
theorem Rep.apart {g g':Gh} {A:Around} {env:Env} {s:Shared} {h':Heap} (r:Rep d g A env σ s) (t:Tok)
  (k1:∀ b o,s.heap.get? b=some o->g b ≠ .own 0->g b ≠ .frm->b≠env.locals->g' b=g b/\h'.get? b=some o)
  (k2:∀ b o,s.heap.get? b=some o->(g b = .frm\/b=env.locals)->g' b=g b/\∃ sl,h'.get? b=some { o with slots:=sl }) :
  Rep d g' A env σ { s with heap:=h',toks:=t }/\Kp g s.heap g' h':=by
 have hL:=r.fr.own
 have hL0:env.locals≠0:=r.pos r.fr.low
 have nL:∀ {b:Addr} {w:Ow},g b=w->w ≠ .own env.locals->b≠env.locals:=fun e hw q=>hw (by simp only[<- e,q];exact hL)
 have fz:∀ b o,g b = .frz->s.heap.get? b=some o->g' b = .frz/\h'.get? b=some o:=fun b o e eo=>by
  obtain this:=k1 b o eo (by rw[e];exact Ow.noConfusion) (by rw[e];exact Ow.noConfusion) (nL e Ow.noConfusion)
  exact⟨this.1.trans e,this.2⟩
 have pr:∀ b o,g b = .prot->s.heap.get? b=some o->g' b = .prot/\h'.get? b=some o:=fun b o e eo=>by
  obtain this:=k1 b o eo (by rw[e];exact Ow.noConfusion) (by rw[e];exact Ow.noConfusion) (nL e Ow.noConfusion)
  exact⟨this.1.trans e,this.2⟩
 have ow:∀ b a o,g b = .own a->a≠0->b≠env.locals->s.heap.get? b=some o->g' b = .own a/\h'.get? b=some o:=fun b a o e ha hb eo=>by
  obtain this:=k1 b o eo (by rw[e];exact Ow.own_ne ha) (by rw[e];exact Ow.noConfusion) hb
  exact⟨this.1.trans e,this.2⟩
 refine ⟨⟨sh_ch r.sh,fun b ob e=>?_,⟨?_,fun y v e1 e2=>?_,?_,fun hf y b e=>?_,fun hf y b e=>?_,r.fr.cinj,r.fr.fn,r.fr.glob,r.fr.bi,r.fr.low⟩,?_,fun b ao e=>?_,r.ok⟩,
  fz,pr,fun b o e eo=>?_⟩
 ·obtain e1:=(r.base b ob e).1;obtain e2:=(r.base b ob e).2
  exact fz b ob e1 e2
 ·refine elEA r.fr.ns fun m hm hv=>?_
  exact⟨m,Ns.slots hm fun o eo=>(k2 _ o eo (.inr rfl)).2,fun y v e1 e2=>elEA (hv y v e1 e2) fun cv e3 rv=>⟨cv,e3,rv.mono fz⟩⟩
 ·refine elEEAA (r.fr.cell y v e1 e2) fun a cv e3 hn3 rv=>?_;refine elEA hn3 fun oc hc hd=>?_;try clear hn3
  refine ⟨a,cv,e3,⟨oc,?_,hd⟩,rv.mono fz⟩
  cases hf:env.func.isSome with
  | true=>exact (ow a _ oc (r.fr.ownc hf y a e3).1 hL0 (r.fr.ownc hf y a e3).2.1 hc).2
  | false=>exact (pr a oc (r.fr.ownp hf y a e3).1 hc).2
 ·refine elEA r.fr.ns fun m hn1 uu=>?_;refine elEEEA hn1 fun o es ep ho z=>?_;try clear hn1
  exact (k2 _ o ho (.inr rfl)).1.trans hL
 ·refine elAAEE (r.fr.ownc hf y b e) fun e1 e2 v oc zz0=>?_;refine elA zz0 fun hc hd=>?_
  obtain this:=ow b _ oc e1 hL0 e2 hc
  exact⟨this.1,e2,v,oc,this.2,hd⟩
 ·refine elAEEA (r.fr.ownp hf y b e) fun e1 v oc hc hd=>?_
  obtain this:=pr b oc e1 hc
  exact⟨this.1,v,oc,this.2,hd⟩
 ·refine elEA r.frs fun fs e f=>?_
  refine ⟨fs,e,fun en hen=>?_⟩
  refine elAEEA (f en hen) fun e1 L o e2 zz0=>?_
  obtain e3:=zz0.1;obtain e4:=zz0.2.1;obtain e5:=zz0.2.2.1;obtain zz1:=zz0.2.2.2
  refine elEE zz1 fun es n e6=>?_
  refine elAE (k2 L o e5 e4) fun q1 sl q2=>?_
  exact⟨e1,L,_,e2,e3,e4.imp (fun q=>q1.trans q) id,q2,es,n,e6⟩
 ·refine elAAA (r.ob b ao e) fun e1 e2 e3 e4=>?_
  obtain hb0:b≠0:=r.pos e3
  refine elE (r.lt e) fun ob hob=>?_
  refine ⟨(ow b b ob e1 hb0 e2 hob).1,e2,e3,e4.in (fun y o ey hy=>?_) e1⟩
  rcases hy with q | q
  ·have:=fz y o q ey;exact⟨this.1.trans q.symm,this.2⟩
  ·obtain this:=ow y b o q hb0 (nL q (Ow.own_ne e2)) ey;exact⟨this.1.trans q.symm,this.2⟩
 ·refine elAE (k2 b o eo (.inl e)) fun q1 sl q2=>?_
  exact⟨q1.trans e,sl,q2⟩
noncomputable def ExcF (g:Gh) (L:Addr) (h:Heap) (x:XK) (e:Value) (fl:Value):Prop :=
 ∃ a oe vs tb otb tvs,e = .ref a/\g a = .own 0/\L < a/\h.get? a=some oe/\oe.cls = .type x.cls/\oe.data = .fields vs/\(x.clean=true->vs[2]? = some Value.none) /\
  vs[1]? = some (.ref tb)/\g tb = .own 0/\tb≠a/\h.get? tb=some otb/\otb.data = .fields tvs/\tvs[3]? = some fl
theorem ExcF.r {g:Gh} {L:Addr} {h:Heap} {x:XK} {e:Value} (z:ExcF g L h x e (rawInt L)):ExcR g L h x e:=by
 refine elEEEE z fun a oe vs tb zz0=>?_
 refine elEE zz0 fun otb tvs zz82=>?_;obtain h1:=zz82.1;obtain h2:=zz82.2.1;obtain hlt:=zz82.2.2.1;obtain zz1:=zz82.2.2.2
 obtain h3:=zz1.1;obtain h4:=zz1.2.1;obtain h5:=zz1.2.2.1;obtain h6:=zz1.2.2.2.1;obtain h7:=zz1.2.2.2.2.1;obtain h8:=zz1.2.2.2.2.2.1;obtain zz2:=zz1.2.2.2.2.2.2
 obtain h9:=zz2.1;obtain h10:=zz2.2.1;obtain h11:=zz2.2.2.1;obtain h12:=zz2.2.2.2
 try clear z
 exact⟨a,oe,vs,h1,h2,hlt,h3,h4,h5,h6,.inr ⟨tb,otb,tvs,h7,h8,h9,h10,h11,h12⟩⟩
theorem Rep.zero {g:Gh} {A:Around} {env:Env} {s:Shared} (r:Rep d g A env σ s) {b:Addr} (e:g b = .own 0):b≠env.locals:=fun q=>by
 obtain h2:=r.fr.own
 rw[q,h2] at e
 exact r.pos r.fr.low (Ow.inj e)
theorem own0_frm {g:Gh} {b:Addr} (e:g b = .own 0):g b ≠ .frm:=by rw[e];exact Ow.noConfusion
theorem note_exc {g:Gh} {s:Shared} {X:XK} {e:Value} {Q:Unit->Shared->Prop} {E:Value->Shared->Prop} (hF:Fm c) (r:Rep d g c.A c.env σ s) (x:ExcR g c.env.locals s.heap X e)
  (h:∀ g' h',Rep d g' c.A c.env σ { s with heap:=h' }->Kp g s.heap g' h'->ExcF g' c.env.locals h' X e (rawInt c.env.locals)->Q () { s with heap:=h' }):wpAny (model d.prog d.w) c.A (noteFrame e c.env) Q E s:=by
 refine elEEEAAAA x fun a oe vs hq3 ga hlt he zz0=>?_
 refine elAAA zz0 fun hc hd hcl hv=>?_
 try clear x
 subst hq3
 rcases hv with h1 | ⟨tb,otb,tvs,h1,gt,hne,ht,hdt,h3⟩
 case inr=>exact wpAny_noteFrame_inFlight hF.fr he hd h1 ht hdt h3 (h g s.heap r (Kp.refl ..) ⟨a,oe,vs,tb,otb,tvs,rfl,ga,hlt,he,hc,hd,hcl,h1,gt,hne,ht,hdt,h3⟩)
 refine elEA r.frs fun fs hfs ff=>?_
 refine elE (hF.top fs hfs) fun outer hq1=>?_
 subst hq1
 have hun:∀ (l:List Env),Frs d g c.env.locals s.heap l->s.heap.FunFrames d.hB l:=by
  intro l
  induction l with
  | nil=>intro _;trivial
  | cons en l ih =>
   intro f
   refine elAEEA (f en (.head _)) fun e1 L o e2 zz0=>?_
   refine elAAA zz0 fun e3 e4 e5 zz1=>?_
   refine elEE zz1 fun es n e6=>?_
   exact⟨e1,⟨L,o,e2,Heap.get?_none_of_le e3,e5,fun vs q=>by rw[e6] at q;cases q⟩,ih fun en' h'=>f en' (.tail _ h')⟩
 have hmem:∀ b,b∈(c.env::outer).filterMap (·.frame)->g b = .frm\/b=c.env.locals:=fun b hb=>by
  refine elE (List.mem_filterMap.mp hb) fun en zz115=>?_;obtain h1:=zz115.1;obtain h2:=zz115.2
  refine elAEEA (ff en h1) fun uu L o e2 zz0=>?_
  obtain e4:=zz0.2.1
  rw[e2] at h2;cases h2;exact e4
 have hsz:1 < vs.size:=(Array.getElem?_eq_some_iff.mp h1).1
 have hea:∀ b,b∈(c.env::outer).filterMap (·.frame)->b≠a:=fun b hb q=>by
  subst q
  rcases hmem b hb with q | q
  ·exact own0_frm ga q
  ·exact r.zero ga q
 unfold noteFrame
 simp only[hF.fr]
 refine wpAny_bind (wpAny_field he hd h1 ?_)
 rw[if_neg (by decide)]
 refine wpAny_bind (wpAny_frameOf_fun hfs (hun _ ff) hF.fr fun E9 hs1=>?_)
 refine wpAny_bind (wpAny_entryPlaceOf fun pl hpl=>?_)
 delta EntryCells.newEntry newFields
 refine wpAny_bind (wpAny_newObj_type ?_ (hpl.sizeOk5 _ _ _ _ _))
 generalize hO:({ cls:=.type "traceback",dict:=none,data:=.fields ([Value.none,.ref c.env.locals,.none,rawInt c.env.locals,.none]++(if pl.isEmpty then List.replicate 6 Value.none else pl)).toArray }:Obj)=O
 have hOd:=congrArg Obj.data hO.symm
 have he1:E9.get? a=some oe:=(hs1.2.1 a fun hm=>hea a hm rfl).trans he
 obtain he2:=Heap.get?_push_of_some (h:=E9) O he1
 refine wpAny_setField he2 hd hsz ?_
 have hTe:E9.objs.size≠a:=Nat.ne_of_gt (Heap.lt_size he1)
 obtain E5:=Obj.data_mapFields hd (·.setIfInBounds 1 (Value.ref E9.objs.size))
 obtain he3:=Heap.get?_update_self (Obj.mapFields (·.setIfInBounds 1 (Value.ref E9.objs.size))) he2 (Obj.isFreed_of_fields E5)
 obtain hT3:=(Heap.get?_update_other (E9.push O)
  (Obj.mapFields (·.setIfInBounds 1 (Value.ref E9.objs.size))) (Ne.symm hTe)).trans (Heap.get?_push_size E9 (Obj.isFreed_of_fields hOd))
 have lt:∀ {b o},s.heap.get? b=some o->b≠E9.objs.size:=fun {b o} eo=>by simp only[hs1.1];exact Nat.ne_of_lt (Heap.lt_size eo)
 have keep:∀ b o,b≠a->E9.get? b=some o->((E9.push O).update a (Obj.mapFields (·.setIfInBounds 1 (Value.ref E9.objs.size)))).get? b=some o:=fun b o hb eo=>by
  rw[Heap.get?_update_other _ _ (Ne.symm hb)]
  exact Heap.get?_push_of_some _ eo
 obtain⟨R,k⟩:=r.apart (g':=gset g E9.objs.size (.own 0)) s.toks (h':=(E9.push O).update a (Obj.mapFields (·.setIfInBounds 1 (Value.ref E9.objs.size))))
  (fun b o eo h0 hf hl=>⟨if_neg (lt eo),keep b o (fun q=>h0 (q ▸ ga)) ((hs1.2.1 b fun hm=>by rcases hmem b hm with q | q;exact hf q;exact hl q).trans eo)⟩)
  (fun b o eo hb=>⟨if_neg (lt eo),by
   refine elE (hs1.2.2 b o eo) fun sl e=>?_
   exact⟨sl,keep b _ (fun q=>by subst q;rcases hb with q | q;exact own0_frm ga q;exact r.zero ga q) e⟩⟩)
 refine h _ _ R k ⟨a,_,_,E9.objs.size,_,_,rfl,(if_neg (lt he)).trans ga,hlt,he3,(Obj.cls_mapFields _ _).trans hc,E5,fun q=>?_,by simp[hsz],if_pos rfl,hTe,hT3,hOd,?_⟩
 ·rw[Array.getElem?_setIfInBounds_ne (by decide)];exact hcl q
 ·rcases hpl with rfl | ⟨_,_,_,_,_,_,_,rfl⟩<;>simp
theorem flight_exc {g:Gh} {s:Shared} {X:XK} {e f0:Value} {Q:Unit->Shared->Prop} {E:Value->Shared->Prop} (fl:Option Addr) (r:Rep d g c.A c.env σ s) (x:ExcF g c.env.locals s.heap X e f0) {A':Around}
  (h:∀ h',Rep d g c.A c.env σ { s with heap:=h' }->Kp g s.heap g h'->ExcF g c.env.locals h' X e (fl.elim .none fun f=>rawInt f)->Q () { s with heap:=h' }):wpAny (model d.prog d.w) A' (setFlight e fl) Q E s:=by
 refine elEEEE x fun a oe vs tb zz0=>?_
 refine elEEAAA zz0 fun otb tvs hq6 ga hlt zz1=>?_
 refine elAAAAAA zz1 fun he hc hd hcl h1 gt zz2=>?_
 refine elAAA zz2 fun hne ht hdt h3=>?_
 try clear x
 subst hq6
 obtain hsz3:3 < tvs.size:=(Array.getElem?_eq_some_iff.mp h3).1
 obtain other:∀ b,b≠tb->(s.heap.update tb (Obj.mapFields (·.setIfInBounds 3 (fl.elim Value.none fun f=>rawInt f)))).get? b=s.heap.get? b:=fun b hb=>Heap.get?_update_other _ _ (Ne.symm hb)
 unfold setFlight
 refine wpAny_bind (wpAny_field he hd h1 ?_)
 rw[if_pos (show (Value.ref tb != Value.none)=true from by simp)]
 refine wpAny_setField ht hdt hsz3 ?_
 obtain⟨R,k⟩:=r.apart (g':=g) s.toks (h':=s.heap.update tb (Obj.mapFields (·.setIfInBounds 3 (fl.elim Value.none fun f=>rawInt f))))
  (fun b o eo h0 _ _=>⟨rfl,(other b fun q=>h0 (q ▸ gt)).trans eo⟩)
  (fun b o eo hb=>⟨rfl,o.slots,(other b (fun q=>by subst q;rcases hb with q | q;exact own0_frm gt q;exact r.zero gt q)).trans eo⟩)
 exact h _ R k ⟨a,oe,vs,tb,_,_,rfl,ga,hlt,(other a (Ne.symm hne)).trans he,hc,hd,hcl,h1,gt,hne,Heap.get?_update_self _ ht (Obj.isFreed_of_fields (Obj.data_mapFields hdt _)),Obj.data_mapFields hdt _,by simp[hsz3]⟩
noncomputable def PostF (d:Wd) (c:Cx) (g:Gh) (s:Shared) (fl:Value) (e:Value) (s':Shared):Prop :=
 ∃ g' σ' x,Rep d g' c.A c.env σ' s'/\Kp g s.heap g' s'.heap/\ExcF g' c.env.locals s'.heap x e fl/\c.X x σ'
theorem PostF.x {g:Gh} {s s':Shared} {e:Value} (z:PostF d c g s (rawInt c.env.locals) e s'):PostX d c g s e s' :=
 elEEEAAA z fun g' σ' x h1 h2 h3 h4=>⟨g',σ',x,h1,h2,h3.r,h4⟩
theorem PostX.noted {g:Gh} {s s':Shared} {e:Value} {Q:Unit->Shared->Prop} {E:Value->Shared->Prop} (hF:Fm c) (z:PostX d c g s e s') (h:∀ s'',PostF d c g s (rawInt c.env.locals) e s''->Q () s''):wpAny (model d.prog d.w) c.A (noteFrame e c.env) Q E s':=by
 refine elEEEAAA z fun g' σ' x h1 h2 h3 h4=>?_
 try clear z
 exact note_exc hF h1 h3 fun g'' h' r k f=>h _ ⟨g'',σ',x,r,h2.trans k,f,h4⟩
theorem ExcF.field {g:Gh} {s:Shared} {x:XK} {e fl:Value} {A:Around} {Q:Value->Shared->Prop} {E:Value->Shared->Prop} (z:ExcF g c.env.locals s.heap x e fl) (h:∀ tb,Q (.ref tb) s):wpAny (model d.prog d.w) A (field e 1) Q E s:=by
 refine elEEEE z fun a oe vs tb zz0=>?_
 refine elEEAAA zz0 fun otb tvs hq6 ga hlt zz1=>?_
 obtain he:=zz1.1;obtain hc:=zz1.2.1;obtain hd:=zz1.2.2.1;obtain hcl:=zz1.2.2.2.1;obtain h1:=zz1.2.2.2.2.1
 try clear z
 subst hq6
 exact wpAny_field he hd h1 (h tb)
theorem PostF.came {g:Gh} {s s':Shared} {e fl:Value} {E:Value->Shared->Prop} (hF:Fm c) (z:PostF d c g s fl e s') (h:∀ s'',PostX d c g s e s''->E e s''):cameBackBy (model d.prog d.w) c.A c.env E e s':=by
 refine elEEEAAA z fun g' σ' x h1 h2 h3 h4=>?_
 try clear z
 refine wpAny_bind (h3.field fun tb=>?_)
 rw[if_neg (by simp),hF.fr]
 exact flight_exc _ h1 h3 fun h' r k f=>h _ ⟨g',σ',x,r,h2.trans k,f.r,h4⟩
theorem WS_While {test:Expr} {body orelse:List Stmt} {pos:Pos} {K:Fl->St->Prop} (hF:Fm c) (I:Nat->St->Prop)
  (turn:∀ n σ,I n σ->WT d c test σ fun b σ1=>if b=true then WB d c body σ1 (FW K fun L8=>∃ m,m < n/\I m L8) else WB d c orelse σ1 K)
  (n:Nat) (h:I n σ):WS d c (.While test body orelse pos) σ K:=fun g s r=>by
 refine wpAny_While (codeAny_whileLoop (fun n s'=>∃ g' σ',I n σ'/\Rep d g' c.A c.env σ' s'/\Kp g s.heap g' s'.heap) ?_ n ⟨g,σ,h,r,Kp.refl ..⟩)
 intro n J6 zr2
 refine elEEAA zr2 fun E1 σ1 hI I7 G7=>?_
 try clear zr2
 have ex:∀ {E2:Gh} {J7:Shared} (_:Kp g s.heap E2 J7.heap) (e:Value) (s':Shared),PostX d c E2 J7 e s'->notedBy (model d.prog d.w) c.A c.env (fun e s'=>cameBackBy (model d.prog d.w) c.A c.env (PostX d c g s) e s') e s' :=
  fun k e s' z=>(z.kp d k).noted hF fun s'' f=>f.came hF fun s3 q=>q
 refine wpAny_mono (turn n σ1 hI E1 J6 I7) (fun b J7 zz=>zz.elim fun E2 b' L8 I8 G8 hb hK=>?_) (ex G7)
 cases hb
 cases b with
 | false =>
  simp only[Bool.false_eq_true,if_false] at hK ⊢
  exact wpAny_mono (hK E2 J7 I8) (fun f J8 z=>z.kp d (G7.trans G8)) (ex (G7.trans G8))
 | true =>
  simp only[if_true] at hK ⊢
  refine wpAny_mono (hK E2 J7 I8) (fun f J8 zz=>zz.elim fun E3 f' σ3 I9 G9 rf hq=>?_) (ex (G7.trans G8))
  cases rf with
  | next=>refine elEA hq fun m hm hI'=>?_;try clear hq;exact⟨m,hm,E3,σ3,hI',I9,(G7.trans G8).trans G9⟩
  | cont=>refine elEA hq fun m hm hI'=>?_;try clear hq;exact⟨m,hm,E3,σ3,hI',I9,(G7.trans G8).trans G9⟩
  | brk=>exact⟨E3,_,σ3,I9,(G7.trans G8).trans G9,.next,hq⟩
  | ret q=>exact⟨E3,_,σ3,I9,(G7.trans G8).trans G9,.ret q,hq⟩
end
section
variable {d:Wd} {c:Cx} {σ:St}
theorem Fm.any {c:Cx} (hF:Fm c) (X:XK->St->Prop):Fm ⟨c.A,c.env,X⟩:=⟨hF.fr,hF.top⟩
theorem Fm.mark {c:Cx} (hF:Fm c) (h:Option Value) (X:XK->St->Prop):Fm ⟨c.A.mark h,c.env,X⟩:=⟨hF.fr,hF.top⟩
theorem PostQ.under {α β:Type} {A:Around} {X:XK->St->Prop} {g:Gh} {s s':Shared} {R:Gh->Heap->β->α->Prop} {K:β->St->Prop} {a:α} (h:A.frames=c.A.frames) (x:PostQ d ⟨A,c.env,X⟩ g s R K a s'):PostQ d c g s R K a s' :=
 x.elim fun g' b σ' h1 h2 h3 h4=>⟨g',b,σ',h1.around h.symm,h2,h3,h4⟩
theorem PostX.notedX {A:Around} {env:Env} {X:XK->St->Prop} {g:Gh} {s s':Shared} {e:Value} {Q:Unit->Shared->Prop} {E:Value->Shared->Prop} (hF:Fm ⟨A,env,X⟩) (z:PostX d ⟨A,env,X⟩ g s e s') (h:∀ s'',PostF d ⟨A,env,X⟩ g s (rawInt env.locals) e s''->Q () s''):wpAny (model d.prog d.w) A (noteFrame e env) Q E s':=z.noted hF h
noncomputable def Reads1 (d:Wd) (env:Env) (t:Expr) (v:Value):Prop :=
 ∀ (A':Around) (σ':St) g s,Rep d g A' env σ' s->∀ (Q:Value->Shared->Prop) (E:Value->Shared->Prop),Q v s->wpAny (model d.prog d.w) A' (eval t env) Q E s
theorem reads_bltn {env:Env} {x:Str} {pos:Pos} {v:Value} (e:nsIn d.K mainGlobals x=some none) (hn:(x == ("__name__":Str))=false) (eb:bootBuiltins x=some v) (hx:env.kindOf x=some .globalImplicit) (hd:(x == ("__debug__":Str))=false):Reads1 d env (.Name x pos) v:=fun A' σ' g s r Q E h=>by
 refine elE r.fr0 fun m F=>?_
 exact Name_function_global r.fr.fn hx (loadGlobal_builtin (env:=env) (by rw[r.fr.glob];exact r.ok.top.g.keeps F.keep) (mg_none_of r.ok.inK r.ok.top.g e) (by rw[r.fr.bi];exact r.ok.top.b.keeps F.keep)
  (by rw[r.ok.top.builtins x (ne_of_beq_false hn)];exact eb) h) hd
theorem WS_TryExcept {T:String} {t:Expr} {body orelse suite:List Stmt} {B1:Stmt} {hpos pos:Pos} {K:Fl->St->Prop} (hF:Fm c)
  (hexc:isSubtype (.type T) (.type "BaseException")=pure true) (hnt:isSubtype (.type ((Manifest.find? T).elim "type" fun x=>x.metatype)) (.type "tuple")=pure false) (hself:isSubtype (.type T) (.type T)=pure true)
  (ht:Reads1 d c.env t (.type T))
  (h:WB d ⟨c.A,c.env,fun x σ'=>x.cls=T/\∀ B9,WB d ⟨c.A.mark (some (.ref B9)),c.env,fun _ _=>False⟩ (B1::suite) σ' K⟩ body σ fun f σ1=>match f with | .next=>WB d c orelse σ1 K | f=>K f σ1) :
  WS d c (.Try body [.ExceptHandler (some t) none (B1::suite) hpos] orelse [] pos) σ K:=fun g s r=>by
 refine wpAny_Try_except (wpAny_mono (h g s r) (fun f J6 zz=>zz.elim fun E1 f' σ1 I7 G7 rf hK=>?_) (fun e J6 z=>?_))
 ·cases rf with
  | next=>exact wpAny_mono (hK E1 J6 I7) (fun _ _ z=>z.kp d G7) (fun _ _ z=>z.kp d G7)
  | brk=>exact⟨E1,_,σ1,I7,G7,.brk,hK⟩
  | cont=>exact⟨E1,_,σ1,I7,G7,.cont,hK⟩
  | ret q=>exact⟨E1,_,σ1,I7,G7,.ret q,hK⟩
 ·refine PostX.notedX (hF:=hF.any _) (z:=z) fun J7 zz=>elEEEAAAA zz fun E2 L8 x I8 G8 C7 hx hh=>?_
  refine flight_exc none I8 C7 fun G2 I9 G9 C8=>?_
  refine elEEEE (id C8) fun a oe vs tb zz0=>?_
  refine elEE zz0 fun otb tvs zz36=>?_;obtain hq6:=zz36.1;obtain ga:=zz36.2.1;obtain hlt:=zz36.2.2.1;obtain zz1:=zz36.2.2.2
  obtain he:=zz1.1;obtain hc:=zz1.2.1;obtain hd:=zz1.2.2.1;obtain hcl:=zz1.2.2.2.1;obtain h1:=zz1.2.2.2.2.1;obtain gt:=zz1.2.2.2.2.2.1;obtain zz2:=zz1.2.2.2.2.2.2
  obtain hne:=zz2.1;obtain htb:=zz2.2.1;obtain hdt:=zz2.2.2.1;obtain h3:=zz2.2.2.2
  subst hq6
  refine wpAny_handleBy_builtin (X:=T) (b:=true) hexc hnt hself ?_
  refine ht (c.A.mark (some (.ref a))) L8 E2 _ (I9.around rfl) _ _ ⟨rfl,⟨oe,he,by simp only[hc,hx]⟩,?_⟩
  simp only[if_pos rfl]
  refine flight_exc none I9 C8 fun G3 J0 H7 C9=>?_
  refine wpAny_mono (hh a E2 _ (J0.around rfl)) (fun f K0 z=>?_) (fun uu uu zz=>zz.elim fun uu uu uu uu uu uu q=>q.elim)
  obtain kk:Kp g s.heap E2 G3:=Kp.trans (Kp.trans G8 G9) H7
  exact PostQ.kp (J6:={ J7 with heap:=G3 }) d kk (PostQ.under (c:=c) (A:=c.A.mark (some (.ref a))) (h:=rfl) (x:=z))
theorem Rep.takeExc {g:Gh} {s:Shared} {x:XK} {a:Addr} {fl:Value} (r:Rep d g c.A c.env σ s) (z:ExcF g c.env.locals s.heap x (.ref a) fl) (hx:x.clean=true):σ.hp a=none/\∃ g',Rep d g' c.A c.env (σ.upd a (.exc x.cls)) s/\Kp g s.heap g' s.heap:=by
 refine elEEEE z fun a' oe vs tb zz0=>?_
 refine elEEAAA zz0 fun otb tvs e ga hlt zz1=>?_
 refine elAAAAAA zz1 fun he hc hd hcl h1 gt zz2=>?_
 refine elAAA zz2 fun hne htb hdt h3=>?_
 try clear z
 cases e
 have ha:σ.hp a=none:=by
  cases q:σ.hp a with
  | none=>rfl
  | some ao =>
   obtain e1:=(r.ob a ao q).1;obtain e3:=(r.ob a ao q).2.2.1
   simp only[ga] at e1
   exact absurd (Ow.inj e1).symm (r.pos e3)
 obtain hsz3:3 < tvs.size:=(Array.getElem?_eq_some_iff.mp h3).1
 obtain⟨R,k⟩:=r.apart (g':=gset (gset g a (.own a)) tb (.own a)) s.toks (h':=s.heap)
  (fun b o eo h0 _ _=>⟨by unfold gset;rw[if_neg (fun q:b=tb=>h0 (by rw[q];exact gt)),if_neg (fun q:b=a=>h0 (by rw[q];exact ga))],eo⟩)
  (fun b o eo hb=>⟨by
   unfold gset
   rw[if_neg (fun q:b=tb=>by subst q;rcases hb with q | q;exact own0_frm gt q;exact r.zero gt q),if_neg (fun q:b=a=>by subst q;rcases hb with q | q;exact own0_frm ga q;exact r.zero ga q)],o.slots,eo⟩)
 have R':Rep d (gset (gset g a (.own a)) tb (.own a)) c.A c.env σ s:=R
 have ga':gset (gset g a (.own a)) tb (.own a) a = .own a:=by unfold gset;rw[if_neg (Ne.symm hne),if_pos rfl]
 refine ⟨ha,_,R'.addObj (ao:=.exc x.cls) ga' (Nat.ne_of_gt hlt) (Nat.le_of_lt (Nat.lt_of_le_of_lt r.fr.low hlt)) ⟨oe,vs,tb,otb,tvs,he,hc,hd,hcl hx,h1,if_pos rfl,hne,htb,hdt,hsz3⟩,k⟩
open Classical in
theorem Rep.giveExc {g:Gh} {s:Shared} {n:String} {a:Addr} (r:Rep d g c.A c.env σ s) (hp:σ.hp a=some (.exc n)):∃ g' fl,Rep d g' c.A c.env ⟨σ.loc,fun b=>if b=a then none else σ.hp b⟩ s/\Kp g s.heap g' s.heap/\(c.env.locals < a->ExcF g' c.env.locals s.heap ⟨n,true⟩ (.ref a) fl):=by
 refine elAAA (r.ob a _ hp) fun e1 e2 e3 zz0=>?_
 refine elEEEE zz0 fun oe vs tb otb zz1=>?_
 refine elEAAA zz1 fun tvs he hc hd zz2=>?_
 refine elAAAAAA zz2 fun hv2 h1 gt hne htb hdt hz=>?_
 let g':Gh:=fun b=>if g b = .own a then .own 0 else g b
 have k:Ch c.env.locals a g s.heap g' s.heap:=by
  refine elEA r.fr.ns fun m hm uu=>?_
  refine ⟨fun x o eo hn _=>⟨if_neg hn,eo⟩,⟨m,hm,hm⟩,if_neg ?_,r.fr.own⟩
  rw[r.fr.own];exact Ow.own_ne (Ne.symm e2)
 obtain R:=r.but (o:=none) (t:=s.toks) k e2 (fun _ e=>nomatch e)
 exact⟨g',_,R,k.kp,fun hlt=>⟨a,oe,vs,tb,otb,tvs,rfl,if_pos e1,hlt,he,hc,hd,fun _=>hv2,h1,if_pos gt,hne,htb,hdt,Array.getElem?_eq_getElem hz⟩⟩
theorem WS_TryFinally {body fin:List Stmt} {C6:Stmt} {pos:Pos} {K:Fl->St->Prop} (hF:Fm c)
  (h:WB d ⟨c.A,c.env,fun x σ'=>x.clean=true/\∀ B9,c.env.locals < B9->σ'.hp B9=none->WB d ⟨c.A.mark (some (.ref B9)),c.env,c.X⟩ (C6::fin) (σ'.upd B9 (.exc x.cls)) fun f σ''=>f = .next/\σ''.hp B9=some (.exc x.cls)/\c.X ⟨x.cls,true⟩ ⟨σ''.loc,fun b=>if b=B9 then none else σ''.hp b⟩⟩ body σ
   fun f σ1=>f = .next/\WB d c (C6::fin) σ1 K) :
  WS d c (.Try body [] [] (C6::fin) pos) σ K:=fun g s r=>by
 obtain ex:∀ {E2:Gh} {J7:Shared} (_:Kp g s.heap E2 J7.heap) (e:Value) (s':Shared),PostX d c E2 J7 e s'->notedBy (model d.prog d.w) c.A c.env (cameBackBy (model d.prog d.w) c.A c.env (PostX d c g s)) e s' :=
  fun k e s' z=>(z.kp d k).noted hF fun s'' f=>f.came hF fun s3 q=>q
 refine wpAny_Try_finally (wpAny_mono (h g s r) (fun f J6 zz=>zz.elim fun E1 f' σ1 I7 G7 rf zk=>elA zk fun e hK=>?_) (fun e J6 z=>?_))
 ·subst e
  cases rf
  refine wpAny_execs_nil ?_
  refine wpAny_mono (hK E1 J6 I7) (fun f J7 z=>?_) (ex G7)
  refine elEEEAAA z fun E2 f' L8 I8 G8 rf hq=>?_
  try clear z
  cases rf with
  | next=>exact⟨E2,_,L8,I8,G7.trans G8,.next,hq⟩
  | brk=>exact⟨E2,_,L8,I8,G7.trans G8,.brk,hq⟩
  | cont=>exact⟨E2,_,L8,I8,G7.trans G8,.cont,hq⟩
  | ret q=>exact⟨E2,_,L8,I8,G7.trans G8,.ret q,hq⟩
 ·refine PostX.notedX (hF:=hF.any _) (z:=z) fun J7 f2'=>?_
  refine ⟨(by refine elEEEAAA f2' fun uu uu uu uu uu hn5 uu=>?_;try clear f2';refine elEEEE hn5 fun a uu uu uu zz0=>?_;refine elEEA zz0 fun uu uu hq6 uu=>?_;try clear hn5;subst hq6;unfold byPass;intro q;cases q),?_⟩
  refine PostX.notedX (hF:=hF.any _) (z:=f2'.x) fun J7 zz=>elEEEAAAA zz fun E2 L8 x I8 G8 C7 hx hh=>?_
  refine flight_exc (c:=c) none I8 C7 fun G2 I9 G9 C8=>?_
  obtain⟨a,hea,hlt⟩:∃ a,e = .ref a/\c.env.locals < a:=elEEEE C8 fun a _ _ _ z=>elEEAAA z fun _ _ e _ l _=>⟨a,e,l⟩
  subst hea
  refine elAEA (I9.takeExc C8 hx) fun ha E4 J0 H7=>?_
  obtain kk:Kp g s.heap E4 G2:=Kp.trans (Kp.trans G8 G9) H7
  refine wpAny_mono (hh a hlt ha E4 _ (J0.around rfl)) (fun f K0 zz=>zz.elim fun g5 f' σ5 J1 H8 rf zk=>elAA zk fun e hp hX=>?_) (fun e' K0 z=>?_)
  ·subst e
   cases rf
   refine elEEAA ((J1.around (A':=c.A) rfl).giveExc (c:=c) hp) fun g6 fl J2 H9 f6=>?_
   unfold PySem.passOn
   refine wpAny_bind ((f6 hlt).field fun tb=>?_)
   rw[if_neg (by simp),hF.fr]
   refine wpAny_bind (flight_exc _ J2 (f6 hlt) fun G4 J3 I2 f7=>?_)
   exact wpAny_throw ⟨g6,_,_,J3,((kk.trans H8).trans H9).trans I2,f7.r,hX⟩
  ·obtain hF':Fm ⟨c.A.mark (some (.ref a)),c.env,c.X⟩:=⟨hF.fr,hF.top⟩
   refine (PostX.kp d kk z).noted (c:=⟨c.A.mark (some (.ref a)),c.env,c.X⟩) hF' fun s6 f=>?_
   obtain f':PostF d c g s (rawInt c.env.locals) e' s6:=elEEEAAA f fun g' σ' x h1 h2 h3 h4=>⟨g',σ',x,h1.around rfl,h2,h3,h4⟩
   exact f'.came hF fun s3 q=>q
end
section
section
variable {α:Type} {prog:Program} {w:World} {A:Around} {E:Value->Shared->Prop} {s:Shared}
theorem entry_unchain:entryFor table "proto.unchain" = some Builtin.«proto.unchain»:=entryFor_of_tree (by kernel_rfl)
theorem raiseH {cls msg:String} {x:Addr} {ox:Obj} {vx:Array Value} {Q:α->Shared->Prop} (hp:PlainExc cls) (hh:A.handled=some (.ref x)) (hx:s.heap.get? x=some ox) (hd:ox.data = .fields vx) (h2:vx[2]? = some Value.none)
  (h:∀ h' tk e oe vs,(∀ b o,s.heap.get? b=some o->h'.get? b=some o)->s.heap.objs.size<=e->h'.get? e=some oe->oe.cls = .type cls->oe.data = .fields vs->vs[1]? = some Value.none->E (.ref e) { s with heap:=h',toks:=tk }) :
  wpAny (model prog w) A (raiseErrorWords cls msg:Sem α) Q E s:=by
 delta raiseErrorWords
 refine wpAny_bind (wpAny_mkText (wpAny_bind ?_))
 delta newExc newTuple
 refine wpAny_bind (wpAny_newObj_type ?_)
 refine wpAny_bind (m:=firstArgMember _ _) (wpAny_of_eq (a:=Value.none) (by simp only[firstArgMember,hp.first];rfl) ?_)
 simp only[hp.own]
 refine wpAny_newObj_type ?_
 unfold raiseNew
 refine wpAny_bind (wpAny_handled ?_)
 rw[hh]
 dsimp only
 obtain hlt:(x:Nat) < s.heap.objs.size:=Heap.lt_size hx
 obtain hne:(Value.ref x != Value.ref (s.heap.push { cls:=.type "tuple",dict:=none,data:=.seq [Value.str msg s.toks].toArray }).objs.size)=true:=by
  simp only[Heap.size_push]
  simp only[bne_iff_ne,ne_eq,Value.ref.injEq]
  intro q
  simp only[q] at hlt
  exact absurd hlt (Nat.not_lt.mpr (Nat.le_succ _))
 simp only[if_pos hne]
 obtain keep:∀ (o1 o2:Obj) b o,s.heap.get? b=some o->((s.heap.push o1).push o2).get? b=some o:=fun o1 o2 b o hb=>Heap.get?_push_of_some _ (Heap.get?_push_of_some _ hb)
 refine wpAny_bind (wpAny_holding (wpAny_runValue (codeAny_builtin entry_unchain ?_)))
 delta Builtin.«proto.unchain»
 dsimp only
 refine wpAny_bind (wpAny_field (keep _ _ _ _ hx) hd h2 ?_)
 rw[if_pos (by decide)]
 refine wpAny_pure ?_
 refine (?_:wpAny _ _ _ _ _ _)
 obtain hnew:=Heap.get?_push_size (s.heap.push { cls:=.type "tuple",dict:=none,data:=.seq [Value.str msg s.toks].toArray }) (o:={ cls:=.type cls,dict:=none,data:=.fields (#[Value.ref s.heap.objs.size,.none,.none,.none,.bool false,Value.none] ++ #[]) }) rfl
 refine wpAny_bind (wpAny_setField hnew rfl (by simp) ?_)
 refine wpAny_throw ?_
 refine h _ _ _ _ _ (fun b o hb=>?_) ?_ (Heap.get?_update_self _ hnew rfl) rfl rfl (by simp)
 ·rw[Heap.get?_update_other _ _ (by rw[Heap.size_push];obtain hb':(b:Nat) < s.heap.objs.size:=Heap.lt_size hb;intro q;simp only[<- q] at hb';exact absurd hb' (Nat.not_lt.mpr (Nat.le_succ _)))]
  exact keep _ _ _ _ hb
 ·show s.heap.objs.size<=_;simp only[Heap.size_push];exact Nat.le_succ _
theorem raise0 {cls msg:String} {Q:α->Shared->Prop} (hp:PlainExc cls) (hh:A.handled=none)
  (h:∀ h' tk e oe vs,(∀ b o,s.heap.get? b=some o->h'.get? b=some o)->s.heap.objs.size<=e->h'.get? e=some oe->oe.cls = .type cls->oe.data = .fields vs->vs[1]? = some Value.none->vs[2]? = some Value.none->E (.ref e) { s with heap:=h',toks:=tk }) :
  wpAny (model prog w) A (raiseErrorWords cls msg:Sem α) Q E s:=by
 delta raiseErrorWords
 refine wpAny_bind (wpAny_mkText (wpAny_bind ?_))
 delta newExc newTuple
 refine wpAny_bind (wpAny_newObj_type ?_)
 refine wpAny_bind (m:=firstArgMember _ _) (wpAny_of_eq (a:=Value.none) (by simp only[firstArgMember,hp.first];rfl) ?_)
 simp only[hp.own]
 refine wpAny_newObj_type ?_
 unfold raiseNew
 refine wpAny_bind (wpAny_handled ?_)
 rw[hh]
 first
  | refine wpAny_throw ?_
  | refine wpAny_bind (wpAny_pure (wpAny_throw ?_))
 exact h _ _ _ _ _ (fun b o hb=>Heap.get?_push_of_some _ (Heap.get?_push_of_some _ hb)) (by show s.heap.objs.size<=_;simp only[Heap.size_push];exact Nat.le_succ _) (Heap.get?_push_size _ rfl) rfl rfl rfl rfl
theorem getItem_list_outG {l:Addr} {items:Array Value} {k:Int} {t:Tok} {Q:Value->Shared->Prop} (hl:s.heap.IsList l items) (h0:0<=k) (hout:(items.size:Int)<=k) (hhi:k < 2 ^ 63)
  (hr:∀ {α:Type} {Q:α->Shared->Prop} {A':Around},A'.handled=A.handled->wpAny (model prog w) A' (raiseErrorWords "IndexError" "list index out of range":Sem α) Q E s) :
  wpAny (model prog w) A (getItem (.ref l) (.int k t)) Q E s:=by
 refine elEAA (id hl) fun o ho hc zz0=>?_
 refine elE zz0 fun ne hd=>?_
 delta getItem
 try with_reducible refine wpAny_holding ?_
 first | refine wpAny_bind (wpAny_pure ?_) | skip
 refine wpAny_bind (wpAny_sequenceKey hl.typeIs (by decide) ?_)
 refine wpAny_bind (wpAny_callSpecial?_slot (name:=Str.ofString "__getitem__") hl.typeIs slot_list_getitem
  (wpAny_call_entry slot_list_getitem hl.typeIs entry_list_getitem ?_ (args_list_getitem _ _)))
 refine (?_:wpAny _ _ (Builtin.List.listSubscript? (.int k t) >>= _) _ _ s)
 refine wpAny_bind (wpAny_listSubscript_int (fitsIndex_both (Y11 hout) hhi) ?_)
 clear hhi
 refine elE (Int.eq_ofNat_of_zero_le h0) fun j hq1=>?_
 subst hq1
 obtain hxj:items[j]? = none:=Array.getElem?_eq_none (by obtain this:(items.size:Int)<=(j:Int):=hout;exact Y118 hout)
 refine (?_:wpAny _ _ ((seqItemAt l j >>= fun r=>pure (r.map (j,·))) >>= _) _ _ s)
 refine wpAny_bind (wpAny_bind (wpAny_seqItemAt ho hd (wpAny_pure ?_)))
 rw[hxj]
 first
  | exact wpAny_bind (wpAny_rule (hr rfl))
  | exact wpAny_bind (wpAny_rule (wpAny_bind (hr rfl)))
  | exact wpAny_bind (wpAny_bind (wpAny_rule (hr rfl)))
  | exact wpAny_rule (hr rfl)
end
variable {d:Wd} {c:Cx} {σ:St}
theorem Rep.raised {g:Gh} {s:Shared} {h':Heap} {e:Addr} {oe:Obj} {vs:Array Value} {tk:Tok} {x:XK} (r:Rep d g c.A c.env σ s) (hk:∀ b o,s.heap.get? b=some o->h'.get? b=some o) (hn:s.heap.get? e=none) (hlt:c.env.locals < e) (he:h'.get? e=some oe) (hc:oe.cls = .type x.cls) (hd:oe.data = .fields vs)
  (h2:x.clean=true->vs[2]? = some Value.none) (h1:vs[1]? = some Value.none) (hX:c.X x σ):PostX d c g s (.ref e) { s with heap:=h',toks:=tk }:=by
 refine elA (r.apart (g':=gset g e (.own 0)) tk (h':=h') (fun b o eo _ _ _=>⟨if_neg (fun q=>clZ hn eo q),hk b o eo⟩)
  (fun b o eo _=>⟨if_neg (fun q=>clZ hn eo q),o.slots,hk b o eo⟩)) fun R k=>?_
 exact⟨_,σ,x,R,k,⟨e,oe,vs,rfl,if_pos rfl,hlt,he,hc,hd,h2,.inl h1⟩,hX⟩
theorem sub_lst_out {value slice:Expr} {vs:List V} {k:Int} {K:V->St->Prop} (hh:c.A.handled=none) (h0:0<=k) (hhi:k < 2 ^ 63) (hv:(vs.length:Int)<=k) (h:c.X ⟨"IndexError",true⟩ σ):Sub d c value slice (.lst vs) (.int k) σ K:=iv_li fun g s r uu uu uu f e z t=>by
  obtain hsz:=szI z
  exact sub_ops (IsL.isList e).typeIs slot_list_getitem.lookup (getItem_list_outG (IsL.isList e) h0 (by rw[hsz];exact hv) hhi fun hA=>raise0 plainExc_IndexError (hA.trans hh) fun h' tk a oe vs hk hn he hc hd h1 h2 =>
   r.raised hk (Heap.get?_none_of_le hn) (Nat.lt_of_lt_of_le r.size hn) he hc hd (fun _=>h2) h1 h)
theorem sub_lst_outH {value slice:Expr} {vs:List V} {k:Int} {L4:Addr} {n:String} {K:V->St->Prop} (hh:c.A.handled=some (.ref L4)) (hx:σ.hp L4=some (.exc n)) (h0:0<=k) (hhi:k < 2 ^ 63) (hv:(vs.length:Int)<=k) (h:c.X ⟨"IndexError",false⟩ σ):Sub d c value slice (.lst vs) (.int k) σ K:=iv_li fun g s r uu uu uu f e z t=>by
  obtain hsz:=szI z
  obtain zz0:=(r.ob L4 _ hx).2.2.2
  refine elEEEE zz0 fun ox vx tb otb zz1=>?_
  refine elE zz1 fun tvs zz108=>?_;obtain hox:=zz108.1;obtain hdx:=zz108.2.2.1;obtain zz2:=zz108.2.2.2
  obtain h2:=zz2.1
  exact sub_ops (IsL.isList e).typeIs slot_list_getitem.lookup (getItem_list_outG (IsL.isList e) h0 (by simp only[hsz];exact hv) hhi fun hA=>raiseH plainExc_IndexError (hA.trans hh) hox hdx h2 fun h' tk a oe vs hk hn he hc hd h1 =>
   r.raised hk (Heap.get?_none_of_le hn) (Nat.lt_of_lt_of_le r.size hn) he hc hd (fun q=>by cases q) h1 h)
end
section
noncomputable def kLt:Key->Key->Bool
 | [],[]=>false
 | [],_::_=>true
 | _::_,[]=>false
 | a::k,b::l=>if a=b then kLt k l else decide (a < b)
theorem nmS_lt:∀ a b:Fin 4,decide ((nmS a).cps.toList < (nmS b).cps.toList)=decide (a < b):=by decide +kernel
theorem nmS_eq:∀ a b:Fin 4,(nmS a == nmS b)=decide (a=b):=by decide +kernel
section
variable {prog:Program} {w:World} {A:Around} {E:Value->Shared->Prop}
theorem tup_loop {β:Type} {body:Value×Value->β->Sem (ForInStep β)} {b0:β} {g:Gh} {h:Heap} {R:β->Shared->Prop} (done:Bool->β) (lt:Bool) :
  ∀ (k l:Key) (xs ys:List Value) (s:Shared),RepVs g h (k.map nV) xs->RepVs g h (l.map nV) ys ->
   (∀ a b x y (s:Shared) (R':ForInStep β->Shared->Prop),RepV g h (nV a) x->RepV g h (nV b) y->R' (if a=b then .yield b0 else .done (done (if lt=true then decide (a < b) else decide (b < a)))) s->wpAny (model prog w) A (body (x,y) b0) R' E s) ->
   (∀ (e:Option Bool),(match e with | some v=>v | none=>if lt=true then decide (k.length < l.length) else decide (l.length < k.length))=(if lt=true then kLt k l else kLt l k)->R (match e with | some v=>done v | none=>b0) s) ->
   wpAny (model prog w) A (forIn (xs.zip ys) b0 body) R E s:=by
 intro k
 induction k with
 | nil =>
  intro l xs ys s rx ry hb hR
  simp only[rx.n,List.zip_nil_left,List.forIn_nil]
  exact wpAny_pure (hR none (by cases l<;>cases lt<;>simp[kLt]))
 | cons a k ih =>
  intro l xs ys s rx ry hb hR
  refine elEE rx.c fun x xs' zz32=>?_;obtain e1:=zz32.1;obtain rx0:=zz32.2.1;obtain rx:=zz32.2.2
  cases l with
  | nil =>
   simp only[RepVs.n ry,List.zip_nil_right,List.forIn_nil]
   exact wpAny_pure (hR none (by cases lt<;>simp[kLt]))
  | cons b l =>
   refine elEE ry.c fun y ys' zz38=>?_;obtain e2:=zz38.1;obtain ry0:=zz38.2.1;obtain ry:=zz38.2.2
   simp only[e1,e2,List.zip_cons_cons,List.forIn_cons]
   refine wpAny_bind (hb a b _ _ s _ rx0 ry0 ?_)
   by_cases e:a=b
   ·rw[if_pos e]
    refine ih l _ _ s rx ry hb fun o ho=>hR o ?_
    rw[<- e]
    cases o<;>cases lt<;>simpa [kLt] using ho
   ·simp only[if_neg e]
    obtain e':¬ b=a:=fun q=>e q.symm
    exact wpAny_pure (hR (some _) (by cases lt<;>simp[kLt,e,e']))
end
variable {d:Wd} {c:Cx} {σ:St}
theorem cmp_ltK {a b:Key} {K:V->St->Prop} (hu:c.A.units+3 < cLine) (h:K (.bool (kLt a b)) σ):Cmp d c .Lt (kV a) (kV b) σ K:=iv_tv fun g s r ax ix nx fx ex zx y ry=>by
  refine elEEEAAA ry.t fun ay iy ny fy ey zy q_ry=>?_
  rw[q_ry]
  ·
   obtain hx:s.TypeIs (.ref ax) "tuple":=⟨_,ex,rfl⟩
   obtain hy:s.TypeIs (.ref ay) "tuple":=⟨_,ey,rfl⟩
   obtain h1:=szI zx
   obtain h2:=szI zy
   simp only[List.length_map] at h1 h2
   refine (?_:wpAny _ _ (richCompare .Lt _ _) _ _ _)
   refine wpAny_richCompare_same_room hx hy PySem.F.slot_tuple_lt ?_ (Y141 hu)
   refine wpAny_call_entry PySem.F.slot_tuple_lt hx PySem.F.entry_tuple_lt ?_ (PySem.F.args_tuple_lt_2 _ _)
   unfold Builtin.«tuple.__lt__»
   refine wpAny_bind (m:=slotArgs "__lt__" 1 ⟨[.ref ax,.ref ay],[]⟩) (wpAny_pure ?_)
   dsimp only
   refine wpAny_bind (wpAny_isInstance hy (b:=true) (by rw[isSubtype_type];kernel_rfl) ?_)
   simp only[Bool.not_true,Bool.false_eq_true,if_false]
   refine wpAny_bind (m:=Builtin.Tuple.tupleItemsOf (.ref ax)) (wpAny_bind (wpAny_seqItems ex rfl (wpAny_pure ?_)))
   refine wpAny_bind (m:=Builtin.Tuple.tupleItemsOf (.ref ay)) (wpAny_bind (wpAny_seqItems ey rfl (wpAny_pure ?_)))
   refine wpAny_bind ?_
   refine tup_loop (fun v=>(some (Fin.done (.ret (.bool v))),())) true a b _ _ s zx zy (fun a' b' x' y' s' R' hx' hy' hR'=>?_) (fun o ho=>?_)
   ·cases hx';cases hy'
    refine wpAny_bind (eqBool_str ?_)
    rw[nmS_eq]
    by_cases e:a'=b'
    ·rw[if_pos e] at hR'
     rw[decide_eq_true e]
     simp only[Bool.not_true,Bool.false_eq_true,if_false]
     exact wpAny_pure hR'
    ·rw[if_neg e] at hR'
     rw[decide_eq_false e]
     simp only[Bool.not_false,if_true]
     refine wpAny_bind (wpAny_rule (wpAny_bind ?_))
     refine (show wpAny _ _ (compareOp .Lt _ _) _ _ _ from P.lt_str ?_)
     refine wpAny_bind (wpAny_pure (wpAny_pure ?_))
     rw[show decide ((nmS a').cps.toList < (nmS b').cps.toList)=decide (a' < b') from nmS_lt a' b']
     exact hR'
   ·cases o with
    | some v =>
     dsimp only at ho ⊢
     simp only[if_true] at ho
     subst ho
     exact wpAny_pure ⟨_,rfl,by simp,.here r (.raw _) h⟩
    | none =>
     dsimp only at ho ⊢
     simp only[if_true] at ho
     refine wpAny_pure ⟨_,rfl,by delta Builtin.Tuple.tupleCompareSizes;simp,?_⟩
     refine .here r (b:=V.bool (kLt a b)) ?_ h
     simp only[show Builtin.Tuple.tupleCompareSizes .Lt ix.size iy.size = .bool (kLt a b) by simp only[<- ho,h1,h2];unfold Builtin.Tuple.tupleCompareSizes;simp]
     exact .raw _
theorem cmp_gtK {a b:Key} {K:V->St->Prop} (hu:c.A.units+3 < cLine) (h:K (.bool (kLt b a)) σ):Cmp d c .Gt (kV a) (kV b) σ K:=iv_tv fun g s r ax ix nx fx ex zx y ry=>by
  refine elEEEAAA ry.t fun ay iy ny fy ey zy q_ry=>?_
  rw[q_ry]
  ·
   obtain hx:s.TypeIs (.ref ax) "tuple":=⟨_,ex,rfl⟩
   obtain hy:s.TypeIs (.ref ay) "tuple":=⟨_,ey,rfl⟩
   obtain h1:=szI zx
   obtain h2:=szI zy
   simp only[List.length_map] at h1 h2
   refine (?_:wpAny _ _ (richCompare .Gt _ _) _ _ _)
   refine wpAny_richCompare_same_room hx hy PySem.F.slot_tuple_gt ?_ (Y141 hu)
   refine wpAny_call_entry PySem.F.slot_tuple_gt hx PySem.F.entry_tuple_gt ?_ (PySem.F.args_tuple_gt_2 _ _)
   unfold Builtin.«tuple.__gt__»
   refine wpAny_bind (m:=slotArgs "__gt__" 1 ⟨[.ref ax,.ref ay],[]⟩) (wpAny_pure ?_)
   dsimp only
   refine wpAny_bind (wpAny_isInstance hy (b:=true) (by rw[isSubtype_type];kernel_rfl) ?_)
   simp only[Bool.not_true,Bool.false_eq_true,if_false]
   refine wpAny_bind (m:=Builtin.Tuple.tupleItemsOf (.ref ax)) (wpAny_bind (wpAny_seqItems ex rfl (wpAny_pure ?_)))
   refine wpAny_bind (m:=Builtin.Tuple.tupleItemsOf (.ref ay)) (wpAny_bind (wpAny_seqItems ey rfl (wpAny_pure ?_)))
   refine wpAny_bind ?_
   refine tup_loop (fun v=>(some (Fin.done (.ret (.bool v))),())) false a b _ _ s zx zy (fun a' b' x' y' s' R' hx' hy' hR'=>?_) (fun o ho=>?_)
   ·cases hx';cases hy'
    refine wpAny_bind (eqBool_str ?_)
    rw[nmS_eq]
    by_cases e:a'=b'
    ·rw[if_pos e] at hR'
     rw[decide_eq_true e]
     simp only[Bool.not_true,Bool.false_eq_true,if_false]
     exact wpAny_pure hR'
    ·rw[if_neg e] at hR'
     rw[decide_eq_false e]
     simp only[Bool.not_false,if_true]
     refine wpAny_bind (wpAny_rule (wpAny_bind ?_))
     refine (show wpAny _ _ (compareOp .Gt _ _) _ _ _ from P.gt_str ?_)
     refine wpAny_bind (wpAny_pure (wpAny_pure ?_))
     rw[show decide ((nmS a').cps.toList > (nmS b').cps.toList)=decide (b' < a') from nmS_lt b' a']
     exact hR'
   ·cases o with
    | some v =>
     dsimp only at ho ⊢
     simp only[Bool.false_eq_true,if_false] at ho
     subst ho
     exact wpAny_pure ⟨_,rfl,by simp,.here r (.raw _) h⟩
    | none =>
     dsimp only at ho ⊢
     simp only[Bool.false_eq_true,if_false] at ho
     refine wpAny_pure ⟨_,rfl,by delta Builtin.Tuple.tupleCompareSizes;simp,?_⟩
     refine .here r (b:=V.bool (kLt b a)) ?_ h
     simp only[show Builtin.Tuple.tupleCompareSizes .Gt ix.size iy.size = .bool (kLt b a) by simp only[<- ho,h1,h2];unfold Builtin.Tuple.tupleCompareSizes;simp]
     exact .raw _
end
section
variable {d:Wd} {c:Cx} {σ:St}
noncomputable def dropH (hp:Addr->Option AO) (a:Addr):Addr->Option AO:=fun b=>if b=a then none else hp b
theorem dropH_ne {hp:Addr->Option AO} {a b:Addr} (h:b≠a):dropH hp a b=hp b:=if_neg h
theorem dropH_upd {hp:Addr->Option AO} {a:Addr} {o:AO} (h:hp a=none):dropH (updH hp a o) a=hp:=by
 funext b
 delta dropH updH
 by_cases e:b=a
 ·rw[if_pos e,e,h]
 ·rw[if_neg e,if_neg e]
theorem upd_upd {hp:Addr->Option AO} {a:Addr} {o o':AO}:updH (updH hp a o) a o'=updH hp a o':=by
 funext b
 unfold updH
 by_cases e:b=a
 ·rw[if_pos e,if_pos e]
 ·rw[if_neg e,if_neg e,if_neg e]
inductive FrzL (a:Addr) (vs:List V):List (Str×V)->List (Str×V)->Prop
 | nil:FrzL a vs [] []
 | same {p:Str×V} {l l':List (Str×V)}:FrzL a vs l l'->FrzL a vs (p::l) (p::l')
 | frz {x:Str} {l l':List (Str×V)}:FrzL a vs l l'->FrzL a vs ((x,.obj a)::l) ((x,.lst vs)::l')
theorem FrzL.look {a:Addr} {vs:List V} {l l':List (Str×V)} (h:FrzL a vs l l') {x:Str} {v:V} (e:look x l'=some v):look x l=some v\/(v = .lst vs/\look x l=some (.obj a)):=by
 induction h with
 | nil=>cases e
 | same _ ih =>
  unfold Mine.look at e ⊢
  split at e
  ·rename_i q;rw[if_pos q];exact .inl e
  ·rename_i q;rw[if_neg q];exact ih e
 | frz _ ih =>
  unfold Mine.look at e ⊢
  split at e
  ·rename_i q;rw[if_pos q];cases e;exact .inr ⟨rfl,rfl⟩
  ·rename_i q;rw[if_neg q];exact ih e
theorem Rep.freeze {g:Gh} {A:Around} {env:Env} {s:Shared} {a:Addr} {vs:List V} {loc':Str->Option V} (r:Rep d g A env σ s) (hp:σ.hp a=some (.list vs)) (hl:∀ x v,loc' x=some v->σ.loc x=some v\/(v = .lst vs/\σ.loc x=some (.obj a))) :
  ∃ g',Rep d g' A env ⟨loc',dropH σ.hp a⟩ s/\Kp g s.heap g' s.heap/\RepV g' s.heap (.lst vs) (.ref a):=by
 refine elAAAEEA (r.ob a _ hp) fun e1 e2 e3 items n e z=>?_
 have k:Ch env.locals a g s.heap (gset g a .frz) s.heap:=by
  refine elE r.fr.ns fun m zz45=>?_;obtain hm:=zz45.1
  exact⟨fun x o eo hn _=>⟨if_neg fun q:x=a=>hn (by simp only[q];exact e1),eo⟩,⟨m,hm,hm⟩,if_neg (Ne.symm e2),r.fr.own⟩
 obtain R:=r.but (o:=none) (t:=s.toks) k e2 (fun _ e=>nomatch e)
 refine ⟨gset g a .frz,⟨R.sh,R.base,⟨?_,fun y v h1 h2=>?_,R.fr.own,R.fr.ownc,R.fr.ownp,R.fr.cinj,R.fr.fn,R.fr.glob,R.fr.bi,R.fr.low⟩,R.frs,R.ob,R.ok⟩,k.kp,.lst (gset_self ..) e (z.kp k.kp)⟩
 ·refine elE R.fr.ns fun m zz49=>?_;obtain hm:=zz49.1;obtain hv:=zz49.2
  refine ⟨m,hm,fun y v h1 h2=>?_⟩
  rcases hl y v h1 with q | ⟨rfl,q⟩
  ·exact hv y v q h2
  ·refine elEA (hv y _ q h2) fun cv q1 q2=>?_
   cases q2
   exact⟨_,q1,.lst (gset_self ..) e (z.kp k.kp)⟩
 ·rcases hl y v h1 with q | ⟨rfl,q⟩
  ·exact R.fr.cell y v q h2
  ·refine elEEAA (R.fr.cell y _ q h2) fun b cv q1 q2 q3=>?_
   cases q3
   exact⟨b,_,q1,q2,.lst (gset_self ..) e (z.kp k.kp)⟩
theorem Ev.freeze {α β:Type} {R:Gh->Heap->β->α->Prop} {t:Sem α} {K:β->St->Prop} {a:Addr} {vs:List V} {l l':List (Str×V)} {hp:Addr->Option AO} (hh:hp a=some (.list vs)) (hl:FrzL a vs l l') (x:Ev d c R t ⟨lk l',dropH hp a⟩ K):Ev d c R t ⟨lk l,hp⟩ K:=fun g s r=>by
 refine elEAA (r.freeze hh (loc':=lk l') fun y v e=>hl.look e) fun g' r' k uu=>?_
 exact Ev.t (x g' s r') k
noncomputable def setO (fs:List (Option V)) (i:Nat) (v:V):List (Option V):=(fs++List.replicate (i+1 - fs.length) none).set i (some v)
theorem RepOs.length {g:Gh} {h:Heap} {fs:List (Option V)} {sl:List (Option Value)} (x:RepOs g h fs sl):fs.length=sl.length:=by
 induction x with
 | nil=>rfl
 | no _ ih=>simp[ih]
 | yes _ _ ih=>simp[ih]
theorem RepOs.pad {g:Gh} {h:Heap}:∀ n,RepOs g h (List.replicate n none) (List.replicate n none)
 | 0=>.nil
 | n+1=>.no (RepOs.pad n)
theorem RepOs.app {g:Gh} {h:Heap} {fs fs':List (Option V)} {sl sl':List (Option Value)} (x:RepOs g h fs sl) (y:RepOs g h fs' sl'):RepOs g h (fs++fs') (sl++sl'):=by
 induction x with
 | nil=>exact y
 | no _ ih=>exact .no ih
 | yes a _ ih=>exact .yes a ih
theorem RepOs.set {g:Gh} {h:Heap} {fs:List (Option V)} {sl:List (Option Value)} (x:RepOs g h fs sl) {i:Nat} {v:V} {y:Value} (r:RepV g h v y):RepOs g h (fs.set i (some v)) (sl.set i (some y)):=by
 induction x generalizing i with
 | nil=>exact .nil
 | no x' ih=>cases i with
  | zero=>exact .yes r x'
  | succ i=>exact .no ih
 | yes a x' ih=>cases i with
  | zero=>exact .yes r x'
  | succ i=>exact .yes a ih
theorem set_slotV {x C p:Addr} {fs:List (Option V)} {name:Str} {i:Nat} {v:V} {K:Unit->St->Prop} (hp:σ.hp x=some (.slots C fs)) (hs:findIn d.K (.ref C) "__setattr__" = some (some (.builtin "object.__setattr__"))) (hpl:plainOver d.K C=true) (ht:takerIn d.K C name=some (some (.ref p)))
  (hT:typeIn d.K (.ref p)=some (.type "member_descriptor")) (hi:slotIn d.K p C=some i) (hz:i < 1000) (h:K () (σ.upd x (.slots C (setO fs i v)))):SetA d c (.obj x) name v σ K:=iv_rv fun g s r z rz=>by
  refine elAAA (r.ob x _ hp) fun hgx hxL hlow zz0=>?_
  refine elEEEEAAA zz0 fun dx es n sl ho hgd hx zz1=>?_
  obtain hd:=zz1.1;obtain he:=zz1.2.1;obtain q:=zz1.2.2
  refine elE r.fr0 fun m F=>?_
  refine elAA (r.news ho hgx hxL) fun N hne back=>?_
  obtain I:∀ s':Shared,s'.heap=s.heap->InstAt s'.heap x ⟨.ref C,some dx,.plain,sl⟩ C (some (dictOf es n)):=fun s' e=>by simp only[e];exact⟨ho,rfl,rfl,hd⟩
  refine set_plain (C:=C) r.inK (I s rfl) hs ?_
  refine osa_descr (s:={ s with toks:=s.toks+1 }) KF.slot_mset r.inK (I { s with toks:=s.toks+1 } rfl) hpl ht hT ?_
  refine slot_set (s:={ s with toks:=s.toks+1 }) (pre:=[]) F N r.inK (I { s with toks:=s.toks+1 } rfl) hi hz (fun _ hq=>nomatch hq) hne rfl rfl fun h' F' N'=>?_
  refine elA (back F F' N') fun e1 ch=>?_
  obtain rz':=rz.kp ch.kp
  obtain hdL:dx≠c.env.locals:=fun e=>by
   have:=hgd;simp only[e] at this
   exact hxL (Ow.inj (this.symm.trans r.fr.own))
  obtain hd':h'.get? dx=some (dictOf es n):=by
   cases qb:d.hB.get? dx with
   | some _=>exact absurd ((r.base _ _ qb).1.symm.trans hgd) Ow.noConfusion
   | none=>exact (N' _ (.tail _ (mem_allBut hd hdL hx qb))).1
  refine ⟨g,(),_,r.but (o:=some (.slots C (setO fs i v))) (t:=s.toks+1) ch hxL (fun ao e=>?_),ch.kp,rfl,h⟩
  cases e
  refine ⟨hgx,hlow,dx,es,n,_,e1,hgd,hx,hd',he,?_⟩
  obtain hlen:=q.length
  obtain q1:=((q.mono ch.kp.frz).app (RepOs.pad (i+1 - fs.length))).set (i:=i) rz'
  delta setO
  simp only[Array.toList_setIfInBounds,Array.toList_append]
  simp only[show sl.size=fs.length by simp only[hlen];rfl]
  simpa using q1
end
section
section
variable {prog:Program} {w:World} {A:Around} {E:Value->Shared->Prop} {s:Shared}
theorem collect_tup {l:Addr} {o:Obj} {vs:List Value} {n:Nat} {Q:List Value->Shared->Prop} (ho:s.heap.get? l=some o) (hc:o.cls = .type "tuple") (hd:o.data = .seq vs.toArray n) (hsz:vs.length<=1000)
  (h:Q vs { s with heap:=(s.heap.push (seqObj "list" #[] 0)).update s.heap.objs.size (Obj.mapSeq (· ++ vs.toArray)) }):wpAny (model prog w) A (collect (.ref l)) Q E s:=by
 delta collect
 refine wpAny_bind (wpAny_runValue (codeAny_builtin entry_proto_collect' ?_))
 refine (?_:wpAny _ _ (do again (.builtin "list.__iadd__" ⟨[<- newList [],.ref l],[]⟩)) _ _ s)
 refine wpAny_bind (wpAny_newList (wpAny_pure ⟨Code.quiet_builtin _ (by decide +kernel),codeAny_builtin entry_list_iadd' ?_⟩))
 refine (?_:wpAny _ _ (Builtin.List.listExtendWith (.ref s.heap.objs.size) (.ref l) (.ref s.heap.objs.size)) _ _ { s with heap:=s.heap.push (seqObj "list" #[] 0) })
 delta Builtin.List.listExtendWith
 obtain ho':(s.heap.push (seqObj "list" #[] 0)).get? l=some o:=Heap.get?_push_of_some _ ho
 refine wpAny_bind (wpAny_typeOf (T:="tuple") ⟨o,ho',hc⟩ ?_)
 obtain ht:(Value.type "tuple" == Value.type "tuple")=true:=by rfl
 rw[if_pos (by rw[ht];simp)]
 refine wpAny_bind (listItems_at ho' hd ?_)
 refine wpAny_bind (listItems_at (xs:=#[]) (n:=0) (Heap.get?_push_size _ rfl) rfl ?_)
 rw[if_neg (by simp)]
 refine wpAny_bind (listUpdate_at (xs:=#[]) (n:=0) (Heap.get?_push_size _ rfl) rfl ?_ (Nat.zero_le _) (by show (#[]++vs.toArray).size<=sizeLine+1;rw[sizeLine_eq];simp only[Array.size_append,List.size_toArray,List.length_nil];exact Y87 hsz))
 refine wpAny_pure ?_
 refine wpAny_bind (wpAny_load (get?_update_seq (Heap.get?_push_size _ rfl) _) ?_)
 refine (?_:wpAny _ _ (pure ((#[]:Array Value)++vs.toArray).toList) Q E _)
 rw[show ((#[]:Array Value)++vs.toArray).toList=vs by simp]
 exact wpAny_pure h
theorem sortedT {l:Addr} {o:Obj} {vs:List Value} {n:Nat} {ns:List Int} {Q:Value->Shared->Prop} (ho:s.heap.get? l=some o) (hc:o.cls = .type "tuple") (hd:o.data = .seq vs.toArray n) (hI:IntsAre vs ns) (h64:vs.length < 64)
  (h:∀ (out:Array Value) (ns':List Int),IntsAre out.toList ns'->ns'.Perm ns->ns'.Pairwise (· <= ·)->Q (.ref (s.heap.objs.size+1)) { s with heap:=sortedAll s.heap vs out }) :
  wpAny (model prog w) A (call (.builtin "sorted") [.ref l]) Q E s:=by
 refine Calls.call_function_entry kind_sorted plain_sorted entry_sorted (args_sorted1 _) ?_
 delta Builtin.«sorted»
 refine wpAny_bind (m:=checkCount "sorted" 1 1 _) (wpAny_pure ?_)
 refine wpAny_bind (collect_tup ho hc hd (by walk_at "o") ?_)
 refine wpAny_bind (wpAny_newList ?_)
 obtain hsz:((s.heap.push (seqObj "list" #[] 0)).update s.heap.objs.size (Obj.mapSeq (· ++ vs.toArray))).objs.size=s.heap.objs.size+1:=by
  simp only[Heap.size_update,size_push']
 obtain hoL:(((s.heap.push (seqObj "list" #[] 0)).update s.heap.objs.size (Obj.mapSeq (· ++ vs.toArray))).push (seqObj "list" vs.toArray 0)).get? (s.heap.objs.size+1)=some (seqObj "list" vs.toArray 0):=by
  simp only[<- hsz];exact Heap.get?_push_size _ rfl
 refine (?_:wpAny _ _ _ _ _ { s with heap:=((s.heap.push (seqObj "list" #[] 0)).update s.heap.objs.size (Obj.mapSeq (· ++ vs.toArray))).push (seqObj "list" vs.toArray 0) })
 rw[hsz]
 refine wpAny_bind (wpAny_holding (wpAny_call_entry slot_list_sort ⟨_,hoL,rfl⟩ entry_list_sort (list_sort_tree hoL hI h64 fun out ns' a1 a2 a3=>⟨_,rfl,?_⟩) (args_list_sort _)))
 exact wpAny_pure ⟨_,rfl,h out ns' a1 a2 a3⟩
end
variable {d:Wd} {c:Cx} {σ:St}
theorem Rep.grewTo {g:Gh} {A:Around} {env:Env} {s:Shared} {h':Heap} {D:Addr} (r:Rep d g A env σ s) (hn:s.heap.get? D=none) (hk:∀ b o,s.heap.get? b=some o->h'.get? b=some o) (t:Tok) (w:Ow) :
  Rep d (gset g D w) A env σ { s with heap:=h',toks:=t }/\Kp g s.heap (gset g D w) h' :=
 r.apart (g':=gset g D w) t (h':=h') (fun b o eo _ _ _=>⟨if_neg (fun q:b=D=>by simp only[q,hn] at eo;cases eo),hk b o eo⟩)
  (fun b o eo _=>⟨if_neg (fun q:b=D=>by simp only[q,hn] at eo;cases eo),o.slots,hk b o eo⟩)
theorem ints_rep {g:Gh} {h:Heap} {ns:List Int} {cs:List Value} (i:IntsAre cs ns):RepVs g h (ns.map V.int) cs:=by
 induction i with
 | nil=>exact .nil
 | cons _ t _ ih=>exact .cons (.int _ t) ih
theorem call_sortedT {ns:List Int} {K:V->St->Prop} (h64:ns.length < 64) (h:∀ ns':List Int,ns'.Perm ns->ns'.Pairwise (· <= ·)->K (.lst (ns'.map V.int)) σ):CallV d c (.builtin "sorted") [.tup (ns.map V.int)] [] σ K:=cl_t fun g s r a items n f e z=>by
  obtain hI:=ints_are z
  obtain hlen:items.toList.length=ns.length:=by simp only[<- z.length,List.length_map]
  refine sortedT (vs:=items.toList) (n:=n) e rfl (by simp) hI (by simp only[hlen];exact h64) fun out ns' a1 a2 a3=>?_
  refine elE (sortedAll_at s.heap items.toList out) fun e' he'=>?_
  obtain hD:s.heap.get? (s.heap.objs.size+1)=none:=Heap.get?_none_of_le (Nat.le_succ _)
  obtain⟨R,k⟩:=r.grewTo hD (fun b o eo=>sortedAll_old eo) s.toks .frz
  exact⟨_,.lst (ns'.map V.int),_,R,k,.lst (gset_self ..) he' (ints_rep a1),h ns' a2 a3⟩
noncomputable def runT {α:Type} (n:Nat) (lt:Nat->Nat->Bool):KasT α->Option α
 | .ret a=>some a
 | .ask i j k=>if i < n/\j < n then runT n lt (k (lt i j)) else none
theorem runT_wp {α:Type} {n:Nat} {lt:Nat->Nat->Bool} {cmp:Nat->Nat->(Bool->Shared->Prop)->Shared->Prop} {s:Shared} (hc:∀ i j C,i < n->j < n->C (lt i j) s->cmp i j C s):∀ (t:KasT α) (a:α) (Q:α->Shared->Prop),runT n lt t=some a->Q a s->t.kasWp cmp Q s
 | .ret b,a,Q,e,h=>by cases e;exact h
 | .ask i j k,a,Q,e,h=>by
  unfold runT at e
  split at e
  ·rename_i q
   exact hc i j _ q.1 q.2 (runT_wp hc (k (lt i j)) a Q e h)
  ·cases e
theorem KatLex_keys {prog:Program} {w:World} {A:Around} {g:Gh} {h:Heap} {C:Bool->Shared->Prop} {s:Shared}:∀ (k l:Key) (xs ys:List Value) (i:Nat),RepVs g h (k.map nV) xs->RepVs g h (l.map nV) ys->∀ (fin:Bool),(fin=decide (k.length < l.length))->C (kLt k l) s->KatLex prog w A true fin C (xs.zip ys) i s:=by
 intro k
 induction k with
 | nil =>
  intro l xs ys i rx ry fin hf h
  simp only[rx.n,hf]
  cases l<;>exact kat_nil (by simpa [kLt] using h)
 | cons a k ih =>
  intro l xs ys i rx ry fin hf h
  cases l with
  | nil=>simp only[RepVs.n ry,List.zip_nil_right,hf];exact kat_nil (by simpa [kLt] using h)
  | cons b l =>
   refine elEEAA rx.c fun x xs' e1 rx0 rx=>elEEAA ry.c fun y ys' e2 ry0 ry=>elE rx0.s fun t e3=>elE ry0.s fun t' e4=>?_
   simp only[e1,e2,e3,e4]
   refine kat_cons (eqBool_str ?_)
   simp only[nmS_eq]
   by_cases e:a=b
   ·simp only[decide_eq_true e]
    exact kat_yes (ih l _ _ (i+1) rx ry fin (by simpa using hf) (by simpa [kLt,e] using h))
   ·simp only[decide_eq_false e]
    have h':C (decide (a < b)) s:=by simpa [kLt,e] using h
    refine kat_no ?_
    rw[<- nmS_lt] at h'
    cases hi:(true&&i == 0) with
    | true=>exact oneLt_str h'
    | false=>exact kat_one _ _ (P.lt_str h')
theorem katTups_keys {g:Gh} {h:Heap}:∀ {ks:List Key} {vs:List Value},(∀ k∈ks,k≠[])->RepVs g h (ks.map kV) vs->∃ fs:List Value,KatTups h vs fs/\fs.length=ks.length/\∀ v∈fs,∃ x t,v = .str x t:=by
 intro ks
 induction ks with
 | nil=>exact fun _ r=>⟨[],by rw[r.n];exact KatTups.nil,rfl,fun _ h=>nomatch h⟩
 | cons k ks ih =>
  intro vs hk r
  refine elEEAA r.c fun c cs e0 r rs=>?_
  refine elEAA (ih (fun k' h'=>hk k' (.tail _ h')) rs) fun fs h1 h2 h3=>?_
  rw[e0]
  refine elEEEAAA r.t fun a items n f e z q_r=>?_
  rw[q_r]
  ·
   cases k with
   | nil=>exact absurd rfl (hk [] (.head _))
   | cons a0 k0 =>
    refine elEEAA z.c fun x xs hz zx zr=>elE zx.s fun t zx=>?_
    exact⟨x::fs,KatTups.cons (f:=x) e rfl rfl (by rw[<- Array.getElem?_toList,hz];rfl) h1,by simp[h2],fun v hv=>by
     rcases List.mem_cons.mp hv with rfl | hv
     ·exact⟨_,t,zx⟩
     ·exact h3 v hv⟩
theorem RepVs.getD {g:Gh} {h:Heap} {α:Type} {f:α->V} {d0:α} {ks:List α} {vs:List Value} (r:RepVs g h (ks.map f) vs) (i:Nat) (hi:i < ks.length):RepV g h (f (ks.getD i d0)) (vs.getD i Value.none) :=
 elEA (r.get (i:=i) (v:=f ks[i]) (by simp only[List.getElem?_map,List.getElem?_eq_getElem hi];rfl)) fun x e z=>by
  simp only[List.getD_eq_getElem?_getD,List.getD_eq_getElem?_getD,e,List.getElem?_eq_getElem hi]
  exact z
theorem RepVs.pickD {g:Gh} {h:Heap} {α:Type} {f:α->V} {d0:α} {ks:List α} {vs:List Value} (r:RepVs g h (ks.map f) vs) (p:List Nat) (hp:∀ i∈p,i < ks.length):RepVs g h ((p.map fun i=>ks.getD i d0).map f) (p.map fun i=>vs.getD i Value.none):=by
 induction p with
 | nil=>exact .nil
 | cons i p ih=>exact .cons (r.getD i (hp i (.head _))) (ih fun j hj=>hp j (.tail _ hj))
theorem call_sortedK {o:V} {ks:List Key} {p:Array Nat} {K:V->St->Prop} (ho:lstOf σ o=some (ks.map kV)) (h2:2<=ks.length) (h64:ks.length < 64) (hk:∀ k∈ks,k≠[]) (hrun:runT ks.length (fun i j=>kLt (ks.getD i []) (ks.getD j [])) (kas_sort ks.length)=some p) (hp:∀ i∈p.toList,i < ks.length)
  (h:K (ksV (p.toList.map fun i=>ks.getD i [])) σ):CallV d c (.builtin "sorted") [o] [] σ K:=fun g s xs ys r rx ry=>by
 refine elEA rx.c1 fun _ ex r1=>?_
 rw[ex,ry.n]
 ·
  refine elEEEAA (lstOf_rep (c:=c) ho r r1) fun b items n hq3 e z=>?_
  subst hq3
  have hlen:items.toList.length=ks.length:=by rw[<- z.length,List.length_map]
  refine elE r.fr0 fun m F=>?_
  let none0:=s.heap.objs.size
  obtain N:News d.hB c.env.locals s.heap (allBut d.hB s.heap c.env.locals none0):=fun q hq=>⟨(of_allBut hq).1,(of_allBut hq).2.1,(of_allBut hq).2.2.2⟩
  refine kat_sorted (vs:=items.toList) F N (IsL.isList e) (by simp only[hlen];exact h2) (by rw[hlen];exact h64) fun D e1 h' F' N' hlt=>?_
  have all:∀ {h'':Heap} {o'':Obj},Fr d.hB c.env.locals h'' m->News d.hB c.env.locals h'' ((D,o'')::allBut d.hB s.heap c.env.locals none0)->∀ x ox,s.heap.get? x=some ox->x≠c.env.locals->h''.get? x=some ox:=fun F2 N2 x ox ex hx=>by
   cases q:d.hB.get? x with
   | some o2=>have:=(r.base x o2 q).2;rw[ex] at this;cases this;exact F2.keep x _ q
   | none=>exact (N2 _ (.tail _ (mem_allBut ex hx (fun q=>by rw[q,get_none_size] at ex;cases ex) q))).1
  have hDL:D≠c.env.locals:=(N' _ (.head _)).2.1
  have hDn:s.heap.get? D=none:=by
   cases q:s.heap.get? D with
   | none=>rfl
   | some oD =>
    cases q2:d.hB.get? D with
    | some o2=>obtain this:=(N' _ (.head _)).2.2;simp only[this] at q2;cases q2
    | none=>exact absurd (hlt _ (mem_allBut q hDL (fun q'=>by rw[q',get_none_size] at q;cases q) q2)) (Nat.lt_irrefl _)
  obtain frzOld:∀ x ox,g x = .frz->s.heap.get? x=some ox->g x = .frz/\h'.get? x=some ox:=fun x ox ex eo=>⟨ex,all F' N' x ox eo (fun q=>by simp only[q,r.fr.own] at ex;cases ex)⟩
  have z':=z.mono frzOld
  refine elEAA (katTups_keys hk z') fun fs t1 t2 t3=>?_
  refine kat_kind (s:={ s with heap:=h' }) (T:=.type "str") t1 (Y119 h2 t2) (fun v hv=>by refine elEE (t3 v hv) fun x t hq2=>?_;subst hq2;exact Looks.of_pure rfl) (by decide) ?_
  simp only[hlen]
  refine runT_wp (n:=ks.length) (lt:=fun i j=>kLt (ks.getD i []) (ks.getD j [])) (fun i j C hi hj hC=>?_) (kas_sort ks.length) p _ hrun ?_
  ·have zi:=z'.getD (d0:=[]) i hi
   have zj:=z'.getD (d0:=[]) j hj
   unfold kas_ask
   generalize items.toList.getD i Value.none=vi at zi
   generalize items.toList.getD j Value.none=vj at zj
   refine elEEEAAA zi.t fun ai ii ni fi ei zi q_zi=>?_
   rw[q_zi]
   ·
    refine elEEEAAA zj.t fun aj ij nj fj ej zj q_zj=>?_
    rw[q_zj]
    ·
     refine kat_lt (s:={ s with heap:=h' }) ei rfl ej rfl (KatLex_keys _ _ _ _ 0 zi zj _ ?_ hC)
     obtain s1:=szI zi
     obtain s2:=szI zj
     simp only[List.length_map] at s1 s2
     simp only[s1,s2]
  ·refine KasFin.intro (s:={ s with heap:=h' }) F' N' (UpdF.head fun q hq=>(of_allBut hq).2.2.1 ∘ fun e=>?_) fun h'' c2 F2 N2=>?_
   ·exact absurd (e ▸ hlt q hq) (Nat.lt_irrefl _)
   ·obtain hDp:σ.hp D=none:=by
     cases q:σ.hp D with
     | none=>rfl
     | some ao=>refine elE (r.lt q) fun o e=>?_;simp only[hDn] at e;cases e
    obtain ch:Ch c.env.locals D g s.heap (gset g D .frz) h'':=⟨fun x ox ex _ hx=>⟨if_neg (fun q:x=D=>by simp only[q,hDn] at ex;cases ex),all F2 N2 x ox ex hx⟩,⟨m,F.ns,F2.ns⟩,if_neg (Ne.symm hDL),r.fr.own⟩
    obtain R:=r.but (o:=none) (t:=s.toks) ch hDL (fun _ e=>nomatch e)
    simp only[St.same hDp] at R
    refine ⟨_,ksV (p.toList.map fun i=>ks.getD i []),_,R,ch.kp,.lst (gset_self ..) (N2 _ (.head _)).1 ?_,h⟩
    simp only[List.toList_toArray]
    exact (z.pickD p.toList hp).kp ch.kp
theorem nmS_one {a b:Fin 4} (h:nmS a=nmS b):a=b:=of_decide_eq_true ((nmS_inj a b).symm.trans (decide_eq_true h))
theorem keys_one {g:Gh} {h:Heap} {k:Key}:∀ {l:Key} {ys:List Value},RepVs g h (k.map nV) ys->RepVs g h (l.map nV) ys->k=l:=by
 induction k with
 | nil=>exact fun {l ys} x y=>match l with
  | []=>rfl
  | _::_=>elEEAA y.c fun _ _ e _ _=>nomatch x.n.symm.trans e
 | cons a k ih=>exact fun {l ys} x y=>match l with
  | []=>elEEAA x.c fun _ _ e _ _=>nomatch (RepVs.n y).symm.trans e
  | b::l=>elEEAA x.c fun u us e u1 x=>elEEAA y.c fun w ws e' w1 y=>by
   obtain q:=e.symm.trans e'
   obtain q1:=(List.cons.inj q).1
   simp only[<- (List.cons.inj q).2] at y
   rw[ih x y]
   refine elE u1.s fun t e1=>elE w1.s fun t' e2=>?_
   rw[nmS_one (Value.str.inj (e1.symm.trans (q1.trans e2))).1]
theorem key_one {g:Gh} {h:Heap} {k l:Key} {y:Value} (x:RepV g h (kV k) y) (z:RepV g h (kV l) y):k=l :=
 elEEEAAA x.t fun a j n f e r e1=>elEEEAAA z.t fun a' j' n' f' e' r' e1'=>by
  obtain q:=Value.ref.inj (e1.symm.trans e1')
  simp only[<- q] at e'
  obtain w:=Option.some.inj (e.symm.trans e')
  obtain u:j=j':=(Data.seq.inj (congrArg Obj.data w)).1
  simp only[<- u] at r'
  exact keys_one r r'
open Classical in
theorem call_indexK {o:V} {ks:List Key} {k:Key} {j:Nat} {K:V->St->Prop} (R:Rm c.A 0) (ho:lstOf σ o=some (ks.map kV)) (hz:ks.length<=1000) (hj:ks[j]? = some k) (hno:∀ m,m < j->ks[m]?≠some k) (h:K (.int j) σ):CallV d c (.builtin "list.index") [o,kV k] [] σ K:=fun g s xs ys r rx ry=>by
 refine elEEAA rx.c2 fun _ x ex r1 r2=>?_
 rw[ex,ry.n]
 ·
   refine elEEEAA (lstOf_rep (c:=c) ho r r1) fun b items n hq3 e z=>?_
   subst hq3
   have hlen:items.size=ks.length:=by simp only[szI z,List.length_map]
   have hjlt:j < ks.length:=(List.getElem?_eq_some_iff.mp hj).1
   have at_:∀ m (hm:m < items.size),∃ k',ks[m]? = some k'/\RepV g s.heap (kV k') items[m]:=fun m hm=>by
    have hm':m < ks.length:=hlen ▸ hm
    refine elEA (z.get (i:=m) (v:=kV ks[m]) (by simp only[List.getElem?_map,List.getElem?_eq_getElem hm'];rfl)) fun cv q1 q2=>?_
    simp only[Array.getElem?_toList,Array.getElem?_eq_getElem hm] at q1
    cases q1
    exact⟨_,List.getElem?_eq_getElem hm',q2⟩
   let e0:Value->Bool:=fun y=>decide (RepV g s.heap (kV k) y)
   refine call_meets PySem.F.slot_list_index ⟨_,e,rfl⟩ PySem.F.entry_list_index (PySem.F.args_list_index_2 _ _)
    (SeqAt.list_indexAt b items n none #[] x e0 j (hlen ▸ hjlt) (Y195 hz hjlt) ?_ ?_) ⟨e,?_,.tok r (.int _ _) h⟩
   ·refine elEA (at_ j (hlen ▸ hjlt)) fun k' q1 q2=>?_
    rw[hj] at q1;cases q1
    exact decide_eq_true q2
   ·intro m hm hlt
    refine elEA (at_ m hm) fun k' q1 q2=>?_
    exact decide_eq_false fun q3=>hno m hlt (by simp only[q1,key_one q2 q3])
   ·intro y hy
    obtain⟨m,hm,rfl⟩:=Array.mem_iff_getElem.mp hy
    refine elEA (at_ m hm) fun k' q1 q2=>?_
    refine elAE (data_reads q2 (kV_data k')) fun l1 as z1=>?_
    refine elAE (data_reads r2 (kV_data k)) fun l2 bs z2=>?_
    obtain he:e0 items[m]=PyData.eqv (kD k') (kD k):=by
     simp only[eqv_kD]
     by_cases q:k'=k
     ·subst q;exact (decide_eq_true q2).trans (decide_eq_true rfl).symm
     ·exact (decide_eq_false fun q3=>q (key_one q2 q3)).trans (decide_eq_false q).symm
    simp only[he]
    exact SeqAt.eqAt_reads _ _ _ _ _ _ _ _ z1 z2 l1 l2 (by obtain this:=depth_kD k';obtain this:=R.lt;obtain this:=Nat.min_le_left (kD k').depth (kD k).depth;show c.A.units+1+_ < _;omega)
theorem att_cls {C:Addr} {mc v:Value} {name:Str} {expr:Bool} {i:Int} {t:Tok} {K:V->St->Prop} (hv:v = .int i t) (hr:readsIn d.K C mc=true) (e:findCls d.K (.ref C) mc name=some (.val v)) (h:K (.int i) σ):Att d c (.obj C) name expr σ K:=iv_r fun g s r=>by
  subst hv
  exact cls_value r.inK hr e rfl (.tok r (.int _ _) h)
theorem att_FROZEN {expr:Bool} {K:V->St->Prop} (h:K (.int 0) σ):Att d c (.obj 73) (ofS "FROZEN") expr σ K:=att_cls (mc:=.type "type") (t:=208) rfl (by kernel_rfl!) (by kernel_rfl!) h
theorem att_NEST {expr:Bool} {K:V->St->Prop} (h:K (.int 1) σ):Att d c (.obj 73) (ofS "EXPLICIT_NEST") expr σ K:=att_cls (mc:=.type "type") (t:=210) rfl (by kernel_rfl!) (by kernel_rfl!) h
end
section
variable {d:Wd} {c:Cx} {σ:St}
noncomputable def fd143 (P:Params):FuncData:=fnData (o143 P)
noncomputable def fd129 (P:Params):FuncData:=fnData (o129 P)
noncomputable def fd176 (P:Params):FuncData:=fnData (o176 P)
theorem args_add (P:Params) (u v:Value) (rest:List Value):bindArgs (fd143 P) ⟨u::v::rest,[]⟩=(do
  let t <- newTuple rest
  pure [(ofS "self",u),(ofS "node",v),(ofS "predecessors",t)]):=by
 cases rest with
 | nil=>kernel_rfl!
 | cons w ws=>kernel_rfl!
theorem args_done (P:Params) (u:Value) (rest:List Value):bindArgs (fd176 P) ⟨u::rest,[]⟩=(do
  let t <- newTuple rest
  pure [(ofS "self",u),(ofS "nodes",t)]):=by
 cases rest with
 | nil=>kernel_rfl!
 | cons w ws=>kernel_rfl!
theorem args_init (P:Params):∃ f:Value->Option (Array Value)->Sem (List (Str×Value)),(∀ u,bindArgs (fd129 P) ⟨[u],[]⟩=seqItems? (.ref 122) >>= f u)/\∀ u,f u (some #[Value.none])=pure [(ofS "self",u),(ofS "graph",Value.none)]:=⟨_,fun u=>rfl,fun u=>rfl⟩
theorem bind_add {u v:V} {ws:List V} (hz:ws.length<=1000):BindV d c (fd143 d.w.params) (u::v::ws) [] [(ofS "self",u),(ofS "node",v),(ofS "predecessors",.tup ws)] σ:=fun g s xs ys r rv rk Q E hQ=>by
 refine elEEAA rv.c fun x _ ex r1 rv=>elEEAA rv.c fun y zs ey r2 rv=>?_
 rw[ex,ey,RepVs.n rk]
 ·
   simp only[show (List.map Prod.fst ([]:List (Str×V))).zip []=([]:List (Str×Value)) from rfl,args_add]
   delta newTuple
   refine wpAny_bind (wpAny_newObj_type ?_ (by show zs.toArray.size<=sizeLine;simp only[sizeLine_eq,List.size_toArray,<- rv.length];walk_at "o"))
   obtain R:=r.pushed { cls:=.type "tuple",data:=.seq zs.toArray } .frz s.toks
   obtain k:=(r.chPush { cls:=.type "tuple",data:=.seq zs.toArray } .frz).kp
   exact wpAny_pure (hQ _ _ _ R k (.cons (r1.kp k) (.cons (r2.kp k) (.cons (.tup (gset_self ..) (IsT.new ..) (by simpa using rv.kp k)) .nil))))
theorem bind_done {u:V} {ws:List V} (hz:ws.length<=1000):BindV d c (fd176 d.w.params) (u::ws) [] [(ofS "self",u),(ofS "nodes",.tup ws)] σ:=fun g s xs ys r rv rk Q E hQ=>by
 refine elEEAA rv.c fun x zs ex r1 rv=>?_
 rw[ex,RepVs.n rk]
 ·
  simp only[show (List.map Prod.fst ([]:List (Str×V))).zip []=([]:List (Str×Value)) from rfl,args_done]
  delta newTuple
  refine wpAny_bind (wpAny_newObj_type ?_ (by show zs.toArray.size<=sizeLine;simp only[sizeLine_eq,List.size_toArray,<- rv.length];exact Y89 hz))
  obtain R:=r.pushed { cls:=.type "tuple",data:=.seq zs.toArray } .frz s.toks
  obtain k:=(r.chPush { cls:=.type "tuple",data:=.seq zs.toArray } .frz).kp
  exact wpAny_pure (hQ _ _ _ R k (.cons (r1.kp k) (.cons (.tup (gset_self ..) (IsT.new ..) (by simpa using rv.kp k)) .nil)))
theorem bind_init {u:V}:BindV d c (fd129 d.w.params) [u] [] [(ofS "self",u),(ofS "graph",.none)] σ:=fun g s xs ys r rv rk Q E hQ=>by
 refine elEA rv.c1 fun x ex r1=>?_
 rw[ex,RepVs.n rk]
 ·
  refine elE (args_init d.w.params) fun f zz49=>?_;obtain e1:=zz49.1;obtain e2:=zz49.2
  obtain h1:d.K.lookup 122=some (o122 d.w.params):=by kernel_rfl
  obtain h2:=r.inK _ _ h1
  refine (?_:wpAny _ _ (bindArgs (fd129 d.w.params) ⟨[x],[]⟩) _ _ _)
  rw[e1]
  refine wpAny_bind (wpAny_seqItems (items:=#[Value.none]) h2 rfl ?_)
  rw[e2]
  exact wpAny_pure (hQ _ _ _ r (Kp.refl ..) (.cons r1 (.cons (.raw _) .nil)))
noncomputable def seqOf (σ:St):V->Option (List V)
 | .tup vs=>some vs
 | v=>lstOf σ v
theorem seqOf_rep {g:Gh} {s:Shared} {o:V} {x:Value} {vs:List V} (e:seqOf σ o=some vs) (r:Rep d g c.A c.env σ s) (rx:RepV g s.heap o x):∃ b items n T,x = .ref b/\(T = "list" \/ T = "tuple")/\s.heap.get? b=some ({ cls:=.type T,data:=.seq items n }:Obj)/\RepVs g s.heap vs items.toList:=by
 have L:lstOf σ o=some vs->∃ b items n T,x = .ref b/\(T = "list" \/ T = "tuple")/\s.heap.get? b=some ({ cls:=.type T,data:=.seq items n }:Obj)/\RepVs g s.heap vs items.toList:=fun e=>by
  refine elEEEAA (lstOf_rep (c:=c) e r rx) fun b items n h1 h2 h3=>?_
  exact⟨b,items,n,"list",h1,.inl rfl,h2,h3⟩
 cases o with
 | tup ws=>cases e;exact elEEEAAA rx.t fun a j n _ e z q=>⟨a,j,n,"tuple",q,.inr rfl,e,z⟩
 | _=>exact L e
theorem star_rep {g:Gh} {s:Shared} {o:V} {x:Value} {vs:List V} {Q:List Value->Shared->Prop} {E:Value->Shared->Prop} (e:seqOf σ o=some vs) (hz:vs.length<=1000) (r:Rep d g c.A c.env σ s) (rx:RepV g s.heap o x)
  (h:∀ ys h',Rep d g c.A c.env σ { s with heap:=h' }->Kp g s.heap g h'->RepVs g h' vs ys->Q ys { s with heap:=h' }):StarOf (model d.prog d.w) c.A E x Q s:=by
 refine elEEEEAAA (seqOf_rep (c:=c) e r rx) fun b items n T hq4 hT ho z=>?_
 subst hq4
 obtain hT':s.TypeIs (.ref b) T:=⟨_,ho,rfl⟩
 obtain z':wpAny (model d.prog d.w) c.A (collect (.ref b)) Q E s:=by
  refine wpAny_collect_seq b hT ho rfl rfl (fun h' hk=>?_) (sz_of z hz)
  obtain R:=(r.grown hk s.toks).1;obtain k:=(r.grown hk s.toks).2
  exact h _ h' R k (z.kp k)
 delta StarOf notIterableAtAll
 rcases hT with rfl | rfl
 ·exact wpAny_bind (wpAny_specialOf hT' PySem.F.slot_list_iter.lookup (wpAny_pure ⟨rfl,z'⟩))
 ·exact wpAny_bind (wpAny_specialOf hT' PySem.F.slot_tuple_iter.lookup (wpAny_pure ⟨rfl,z'⟩))
theorem WL_star {pos p:Pos} {e:Expr} {rest:List Expr} {K:List V->St->Prop} (h:W d c e σ fun v σ1=>∃ vs,seqOf σ1 v=some vs/\vs.length<=1000/\WL d c pos rest σ1 fun ws L8=>K (vs++ws) L8):WL d c pos (.Starred e p::rest) σ K:=fun g s q=>by
 refine items_star (Ev.b (h g s q) fun x J6 E1 v σ1 h1 h2 h3 zk=>elEAA zk fun vs e1 hz h4=>?_)
 refine star_rep e1 hz h1 h3 fun ys h' R k ry=>?_
 exact Ev.bk (h4 E1 _ R) (h2.trans k) fun zs J7 E2 ws L8 k1 k2 k3 k4=>⟨E2,vs++ws,L8,k1,(h2.trans k).trans k2,(ry.kp k2).append k3,k4⟩
end
section
theorem li_ga:Slot "list_iterator" (Str.ofString "__getattribute__") "object.__getattribute__" :=
 .of (owner:="object") (n:="__getattribute__") (by rw[typeLookup_type,builtinLookup_eq_fast];kernel_rfl) (by decide +kernel) (by decide +kernel) (by decide +kernel) (.inl (by decide +kernel)) (by rw[isSubtype_type];kernel_rfl)
theorem wd_get:Slot "wrapper_descriptor" (Str.ofString "__get__") "wrapper_descriptor.__get__" :=
 .of (owner:="wrapper_descriptor") (n:="__get__") (by rw[typeLookup_type,builtinLookup_eq_fast];kernel_rfl) (by decide +kernel) (by decide +kernel) (by decide +kernel) (.inl (by decide +kernel)) (by rw[isSubtype_type];kernel_rfl)
theorem wd_set:typeLookup (.type "wrapper_descriptor") (Str.ofString "__set__")=pure none:=by rw[typeLookup_type,builtinLookup_eq_fast];kernel_rfl
theorem wd_del:typeLookup (.type "wrapper_descriptor") (Str.ofString "__delete__")=pure none:=by rw[typeLookup_type,builtinLookup_eq_fast];kernel_rfl
theorem li_type:typeOf (.builtin "list_iterator.__next__")=pure (.type "wrapper_descriptor"):=by show builtinType _=_;rw[builtinType_eq_fast];kernel_rfl
theorem entry_wd_get:entryFor table "wrapper_descriptor.__get__" = some Builtin.«wrapper_descriptor.__get__»:=entryFor_of_tree (by kernel_rfl)
theorem args_wd_get (a b c:Value):argsOk "wrapper_descriptor.__get__" ⟨[a,b,c],[]⟩:=by unfold argsOk;kernel_rfl
theorem check_li (it:Addr):checkBoundCall "list_iterator.__next__" ⟨[.ref it],[]⟩=pure ():=by first | kernel_rfl | rfl
theorem li_spec {n:Str} {r:Option Value} (e:typeLookup (.type "wrapper_descriptor") n=pure r):specialOf (.builtin "list_iterator.__next__") n=pure r:=by unfold specialOf;rw[li_type,pure_bind];exact e
theorem li_takes:Builtin.ObjectAttr.takesStores (.builtin "list_iterator.__next__")=pure false:=by
 unfold Builtin.ObjectAttr.takesStores
 rw[li_spec wd_set,pure_bind]
 simp only[Option.isSome_none,Bool.false_eq_true,if_false]
 rw[li_spec wd_del]
 rfl
section
variable {prog:Program} {w:World} {A:Around} {E:Value->Shared->Prop} {s:Shared}
theorem getattr_next {it l:Addr} {i:Nat} {expr:Bool} {Q:Value->Shared->Prop} (ho:s.heap.get? it=some (iterObj l i))
  (h:Q (.ref s.heap.objs.size) { s with heap:=s.heap.push (wrapObj it),toks:=s.toks+1 }):wpAny (model prog w) A (getAttr (.ref it) (Str.ofString "__next__") expr) Q E s:=by
 have hT:∀ t,({ s with toks:=t }:Shared).TypeIs (.ref it) "list_iterator":=fun _=>⟨_,ho,rfl⟩
 unfold getAttr
 refine wpAny_bind (wpAny_mkText ?_)
 unfold getAttrBy
 refine wpAny_holding ?_
 refine wpAny_bind (wpAny_typeOf (hT _) ?_)
 refine wpAny_bind (wpAny_of_eq li_ga.lookup ?_)
 dsimp only
 rw[if_neg (by simp[onTheHeap])]
 delta getAttrByItsOwn hookBefore
 rw[if_neg (by simp[onTheHeap])]
 refine wpAny_bind (wpAny_pure ?_)
 refine wpAny_bind (wpAny_attempt (wpAny_holding ?_))
 unfold callGetattribute
 rw[if_neg (by simp[onTheHeap])]
 unfold boundAndCalled
 refine wpAny_bind (wpAny_of_eq (li_ga.bind _) ?_)
 refine wpAny_call_entry li_ga (hT _) PySem.F.entry_object_getattribute ?_ (PySem.F.args_object_getattribute_2 _ _)
 unfold Builtin.«object.__getattribute__»
 refine wpAny_bind (m:=slotArgs "__getattribute__" 1 _) (wpAny_pure ?_)
 refine wpAny_bind (wpAny_of_eq (a:=Str.ofString "__next__") (by rfl) ?_)
 refine wpAny_bind (wpAny_typeOf (hT _) ?_)
 unfold Builtin.ObjectAttr.find
 refine wpAny_bind (wpAny_bind (wpAny_of_eq slot_listiter_next.lookup ?_))
 refine wpAny_bind (m:=Builtin.ObjectAttr.getOf _) (wpAny_of_eq (a:=some (.builtin "wrapper_descriptor.__get__")) (by unfold Builtin.ObjectAttr.getOf;exact li_spec wd_get.lookup) ?_)
 refine wpAny_bind (m:=Builtin.ObjectAttr.dataDescriptor? _ _) (wpAny_of_eq (a:=none) (by delta Builtin.ObjectAttr.dataDescriptor?;dsimp only;rw[li_takes];rfl) ?_)
 dsimp only
 unfold Builtin.ObjectAttr.ownThenClass
 refine wpAny_bind (m:=Builtin.ObjectAttr.inOwnDict _ _) (wpAny_bind (m:=Builtin.ObjectAttr.ownDict it) (wpAny_bind (wpAny_loadPart ho ?_)) )
 dsimp only
 unfold instanceDict
 refine wpAny_bind (wpAny_loadPart ho ?_)
 dsimp only
 rw[if_pos (by rfl)]
 refine wpAny_pure ?_
 refine wpAny_pure ?_
 dsimp only
 refine wpAny_bind (m:=Builtin.ObjectAttr.copiedAttributeGuard _ _) ?_
 unfold Builtin.ObjectAttr.copiedAttributeGuard
 dsimp only
 rw[if_neg (by decide +kernel)]
 refine wpAny_pure ?_
 delta Builtin.ObjectAttr.byTheClass
 refine wpAny_bind (wpAny_rule (wpAny_pure ?_))
 dsimp only
 delta Builtin.ObjectAttr.bindTo
 dsimp only
 refine wpAny_bind (wpAny_holding ?_)
 obtain wdT:∀ s':Shared,s'.TypeIs (.builtin "list_iterator.__next__") "wrapper_descriptor":=fun s'=>li_type
 refine wpAny_call_entry wd_get (wdT _) entry_wd_get ?_ (args_wd_get _ _ _)
 delta Builtin.«wrapper_descriptor.__get__»
 refine wpAny_bind (wpAny_of_eq (a:=(Value.builtin "list_iterator.__next__",some (Value.ref it),some (Value.type "list_iterator"))) (by rfl) ?_)
 dsimp only
 refine wpAny_bind (wpAny_bind (wpAny_of_eq (a:=(Str.ofString "__next__",Value.type "list_iterator")) (by kernel_rfl) ?_))
 dsimp only
 refine wpAny_bind (wpAny_isInstance (hT _) (b:=true) (by simp only[isSubtype_type];kernel_rfl) ?_)
 simp only[Bool.not_true,Bool.false_eq_true,if_false]
 refine wpAny_pure ?_
 refine wpAny_bind ?_
 unfold newFields
 refine wpAny_newObj_type ?_
 refine wpAny_pure ⟨_,rfl,wpAny_pure ⟨_,rfl,?_⟩⟩
 unfold handedOut
 exact wpAny_pure h
theorem wrap_item {wr it l:Addr} {i:Nat} {items:Array Value} {n:Nat} {x:Value} {Q:Value->Shared->Prop} (hw:s.heap.get? wr=some (wrapObj it)) (hit:s.heap.IsListIter it l i) (hl:IsL s.heap l items n) (hx:items[i]? = some x)
  (hQ:∀ h',h'.IsListIter it l (i+1)->Heap.SameBut it s.heap h'->Q x { s with heap:=h' }):wpAny (model prog w) A (call (.ref wr) [] []) Q E s:=by
 refine elE (id hit) fun o zz97=>?_;obtain ho:=zz97.1;obtain hc:=zz97.2.1;obtain hd:=zz97.2.2
 refine wpAny_call (codeAny_of_tree ?_)
 refine (?_:wpAny _ _ (callAny (.ref wr) ⟨[],[]⟩) _ _ _)
 delta callAny
 refine wpAny_bind (wpAny_load hw ?_)
 dsimp only
 rw[if_pos (by decide)]
 refine wpAny_bind (wpAny_of_eq (check_li it) ?_)
 refine wpAny_pure ⟨Code.quiet_builtin _ (by decide +kernel),codeAny_builtin entry_listiter_next ?_⟩
 refine (?_:wpAny _ _ (field (.ref it) 0 >>= _) _ _ s)
 refine wpAny_bind (wpAny_field ho hd (x:=.ref l) rfl ?_)
 refine (?_:wpAny _ _ (if (Value.ref l == Value.none)=true then _ else _) _ _ s)
 rw[if_neg (show ¬ ((Value.ref l == Value.none)=true) from Bool.false_ne_true)]
 refine (?_:wpAny _ _ (field (.ref it) 1 >>= _) _ _ s)
 refine wpAny_bind (wpAny_field ho hd (x:=.int i 0) rfl ?_)
 refine (?_:wpAny _ _ (seqItems? (.ref l) >>= _) _ _ s)
 refine wpAny_bind (wpAny_seqItems hl rfl ?_)
 simp only[Int.toNat_natCast,hx]
 refine wpAny_bind (wpAny_setField ho hd (by simp) (wpAny_pure (hQ _ ?_ (Heap.SameBut.update ..))))
 exact⟨_,Heap.get?_update_self _ ho (Obj.isFreed_of_fields (Obj.data_mapFields hd _)),(Obj.cls_mapFields ..).trans hc,by
  simp only[Obj.data_mapFields hd];simp[rawInt]⟩
theorem wrap_stop {wr it l:Addr} {i:Nat} {items:Array Value} {n:Nat} {Q:Value->Shared->Prop} (hh:A.handled=none) (hw:s.heap.get? wr=some (wrapObj it)) (hit:s.heap.IsListIter it l i) (hl:IsL s.heap l items n) (hx:items[i]? = none)
  (hE:∀ h' e oe vs,(∀ b o,b≠it->s.heap.get? b=some o->h'.get? b=some o)->s.heap.objs.size<=e->h'.get? e=some oe->oe.cls = .type "StopIteration" -> oe.data = .fields vs->vs[1]? = some Value.none->vs[2]? = some Value.none->E (.ref e) { s with heap:=h' }):wpAny (model prog w) A (call (.ref wr) [] []) Q E s:=by
 refine elE (id hit) fun o zz120=>?_;obtain ho:=zz120.1;obtain hc:=zz120.2.1;obtain hd:=zz120.2.2
 refine wpAny_call (codeAny_of_tree ?_)
 refine (?_:wpAny _ _ (callAny (.ref wr) ⟨[],[]⟩) _ _ _)
 delta callAny
 refine wpAny_bind (wpAny_load hw ?_)
 dsimp only
 rw[if_pos (by decide)]
 refine wpAny_bind (wpAny_of_eq (check_li it) ?_)
 refine wpAny_pure ⟨Code.quiet_builtin _ (by decide +kernel),codeAny_builtin entry_listiter_next ?_⟩
 refine (?_:wpAny _ _ (field (.ref it) 0 >>= _) _ _ s)
 refine wpAny_bind (wpAny_field ho hd (x:=.ref l) rfl ?_)
 refine (?_:wpAny _ _ (if (Value.ref l == Value.none)=true then _ else _) _ _ s)
 rw[if_neg (show ¬ ((Value.ref l == Value.none)=true) from Bool.false_ne_true)]
 refine (?_:wpAny _ _ (field (.ref it) 1 >>= _) _ _ s)
 refine wpAny_bind (wpAny_field ho hd (x:=.int i 0) rfl ?_)
 refine (?_:wpAny _ _ (seqItems? (.ref l) >>= _) _ _ s)
 refine wpAny_bind (wpAny_seqItems hl rfl ?_)
 simp only[Int.toNat_natCast,hx]
 refine wpAny_bind (wpAny_rule (wpAny_bind (wpAny_setField ho hd (by simp) ?_)))
 refine (?_:wpAny _ _ (newExc (.type "StopIteration") [] >>= _) _ _ _)
 refine wpAny_bind ?_
 simp only[newExc,newTuple]
 refine wpAny_bind (wpAny_newObj_type ?_ (by size_fits))
 refine wpAny_bind (m:=firstArgMember _ _) (wpAny_of_eq (a:=Value.none) (by first | rfl | (simp only[firstArgMember];rfl)) ?_)
 refine wpAny_newObj_type ?_ (by size_fits)
 simp only[raiseNew]
 refine wpAny_bind (wpAny_handled ?_)
 simp only[show (A.under _).handled=none from hh]
 refine wpAny_bind (wpAny_pure (wpAny_throw ?_))
 refine hE _ _ _ _ (fun b o' hb eo=>?_) ?_ (Heap.get?_push_size _ rfl) rfl rfl rfl rfl
 ·refine Heap.get?_push_of_some _ (Heap.get?_push_of_some _ ?_)
  rw[Heap.get?_update_other _ _ (Ne.symm hb)];exact eo
 ·simp only[Heap.size_push,Heap.size_update];exact Nat.le_succ _
end
variable {d:Wd} {c:Cx} {σ:St}
theorem call_iterL {a:Addr} {vs:List V} {K:V->St->Prop} (hp:σ.hp a=some (.list vs)) (h:∀ it,σ.hp it=none->K (.obj it) (σ.upd it (.iter a 0))):CallV d c (.builtin "iter") [.obj a] [] σ K:=cl_r fun g s r=>by
  refine elEEA (r.ob a _ hp).2.2.2 fun items n e z=>?_
  refine Calls.call_function_entry (by decide +kernel) (by decide +kernel) kdk_entry_iter (kdk_args_iter _) ?_
  delta Builtin.«iter»
  refine wpAny_bind (m:=someArgs "iter" 1 2 _) (wpAny_of_eq (a:=[Value.ref a]) (by first | rfl | kernel_rfl!) ?_)
  refine (?_:wpAny _ _ (pyIter (.ref a) >>= _) _ _ _)
  refine wpAny_bind (wpAny_pyIter_list (IsL.isList e) ?_)
  refine wpAny_pure ⟨_,rfl,?_⟩
  obtain R:=r.made (iterObj a 0) (.iter a 0) s.toks (Heap.get?_push_size _ rfl)
  exact⟨_,.obj s.heap.objs.size,_,R,(r.chPush _ _).kp,.raw _,h _ r.fresh⟩
theorem att_next {it l:Addr} {i:Nat} {expr:Bool} {K:V->St->Prop} (hp:σ.hp it=some (.iter l i)) (h:∀ w,w≠it->σ.hp w=none->K (.obj w) ⟨σ.loc,updH (dropH σ.hp it) w (.wrap l i)⟩):Att d c (.obj it) (Str.ofString "__next__") expr σ K:=iv_r fun g s r=>by
  refine elAAA (r.ob it _ hp) fun e1 e2 e3 ho=>?_
  refine getattr_next ho ?_
  obtain hlt:it≠s.heap.objs.size:=Nat.ne_of_lt (Heap.lt_size ho)
  obtain R1:=r.pushed (wrapObj it) (.own s.heap.objs.size) (s.toks+1)
  obtain k1:=(r.chPush (wrapObj it) (.own s.heap.objs.size)).kp
  obtain gi1:gset g s.heap.objs.size (.own s.heap.objs.size) it = .own it:=(if_neg hlt).trans e1
  have ch:Ch c.env.locals it (gset g s.heap.objs.size (.own s.heap.objs.size)) (s.heap.push (wrapObj it)) (gset (gset g s.heap.objs.size (.own s.heap.objs.size)) it (.own s.heap.objs.size)) (s.heap.push (wrapObj it)):=by
   refine elE R1.fr.ns fun m zz173=>?_;obtain hm:=zz173.1
   exact⟨fun x o eo hn _=>⟨if_neg (fun q:x=it=>hn (by simp only[q];exact gi1)),eo⟩,⟨m,hm,hm⟩,if_neg (Ne.symm e2),R1.fr.own⟩
  obtain R2:=R1.but (o:=none) (t:=s.toks+1) ch e2 (fun _ e=>nomatch e)
  obtain R3:=R2.addObj (a:=s.heap.objs.size) (ao:=.wrap l i) (by
   refine (?_:gset _ it _ _=_)
   delta gset
   rw[if_neg (Ne.symm hlt),if_pos rfl]) (Nat.ne_of_gt r.size) r.low ⟨it,Heap.get?_push_size _ rfl,if_pos rfl,hlt,⟨_,Heap.get?_push_of_some _ ho,rfl,rfl⟩⟩
  exact⟨_,.obj s.heap.objs.size,_,R3,k1.trans ch.kp,.raw _,h _ (Ne.symm hlt) r.fresh⟩
theorem keeps_wrap {prog:Program} {w:World} {wr it:Addr} (h:Heap) (e:h.get? wr=some (wrapObj it)):∃ k,(k=Keeper.frame\/k=Keeper.machine\/k=Keeper.boundFrame)/\Looks (model prog w) h (keeperOf (.ref wr)) k:=by
 refine ⟨.machine,.inr (.inl rfl),?_⟩
 intro A Q E s k q
 unfold keeperOf
 refine wpAny_bind (wpAny_load (k _ _ e) ?_)
 dsimp only
 rw[if_pos (by decide)]
 rw[if_pos (by decide)]
 exact wpAny_pure q
theorem WC_next {pos:Pos} {wr l:Addr} {i:Nat} {vs:List V} {v:V} {K:V->St->Prop} (hp:σ.hp wr=some (.wrap l i)) (hl:σ.hp l=some (.list vs)) (hv:vs[i]? = some v) (h:K v (σ.upd wr (.wrap l (i+1)))):WC d c pos (.ref wr) [] [] [] σ K:=fun g s xs r rf=>by
 cases rf
 refine elAAAEA (r.ob wr _ hp) fun e1 e2 e3 it hw zz0=>?_
 obtain hg:=zz0.1;obtain hn:=zz0.2.1;obtain hit:=zz0.2.2
 obtain el:=(r.ob l _ hl).1;refine elEEA (r.ob l _ hl).2.2.2 fun items n e z=>?_
 refine callWith_of (P:=fun h=>h.get? wr=some (wrapObj it)) rfl (fun h e=>keeps_wrap h e) (evalArgs_nil3 ⟨hw,?_⟩)
 refine elEA (z.get hv) fun cv q1 q2=>?_
 refine wrap_item hw hit e (by simpa using q1) fun h' hi hs=>?_
 have ch:Ch c.env.locals wr g s.heap g h':=by
  refine elEA r.fr.ns fun m hm uu=>?_
  obtain hL:c.env.locals≠it:=fun q=>by
   obtain this:=r.fr.own
   simp only[q,hg] at this
   exact e2 ((Ow.inj this).trans q.symm)
  exact⟨fun x o eo hx _=>⟨rfl,(hs.2 x (fun q=>hx (by simp only[q];exact hg))).trans eo⟩,⟨m,hm,hm.sameBut hs hL⟩,rfl,r.fr.own⟩
 obtain R:=r.but (o:=some (.wrap l (i+1))) (t:=s.toks) ch e2 (fun ao q=>by
  cases q
  exact⟨e1,e3,it,(hs.2 wr (Ne.symm hn)).trans hw,hg,hn,hi⟩)
 exact⟨g,v,_,R,ch.kp,q2.kp ch.kp,h⟩
theorem WC_stop {pos:Pos} {wr l:Addr} {i:Nat} {vs:List V} {K:V->St->Prop} (hh:c.A.handled=none) (hp:σ.hp wr=some (.wrap l i)) (hl:σ.hp l=some (.list vs)) (hv:vs[i]? = none) (h:c.X ⟨"StopIteration",true⟩ ⟨σ.loc,dropH σ.hp wr⟩):WC d c pos (.ref wr) [] [] [] σ K:=fun g s xs r rf=>by
 cases rf
 refine elAAAEA (r.ob wr _ hp) fun e1 e2 e3 it hw zz0=>?_
 obtain hg:=zz0.1;obtain hn:=zz0.2.1;obtain hit:=zz0.2.2
 obtain el:=(r.ob l _ hl).1;refine elEEA (r.ob l _ hl).2.2.2 fun items n e z=>?_
 refine callWith_of (P:=fun h=>h.get? wr=some (wrapObj it)) rfl (fun h e=>keeps_wrap h e) (evalArgs_nil3 ⟨hw,?_⟩)
 obtain hlen:=szI z
 refine wrap_stop hh hw hit e (by rw[Array.getElem?_eq_none_iff,hlen];exact List.getElem?_eq_none_iff.mp hv) fun h' a oe fs hk hsz he hc hd h1 h2=>?_
 obtain hLit:c.env.locals≠it:=fun q=>by
  obtain this:=r.fr.own
  rw[q,hg] at this
  exact e2 ((Ow.inj this).trans q.symm)
 have haL:c.env.locals < a:=Nat.lt_of_lt_of_le r.size hsz
 obtain han:s.heap.get? a=none:=Heap.get?_none_of_le hsz
 have ch:Ch c.env.locals wr g s.heap (gset g a (.own 0)) h':=by
  refine elEA r.fr.ns fun m hn1 uu=>?_
  refine elEEE hn1 fun o es ep zz225=>?_;obtain eo:=zz225.1;obtain zz:=zz225.2
  try clear hn1
  exact⟨fun x o eo hx _=>⟨if_neg (fun q:x=a=>by simp only[q,han] at eo;cases eo),hk x o (fun q=>hx (by rw[q];exact hg)) eo⟩,⟨m,⟨o,es,ep,eo,zz⟩,⟨o,es,ep,hk _ _ hLit eo,zz⟩⟩,if_neg (Nat.ne_of_lt haL),r.fr.own⟩
 obtain R:=r.but (o:=none) (t:=s.toks) ch e2 (fun _ q=>nomatch q)
 exact⟨_,_,⟨"StopIteration",true⟩,R,ch.kp,⟨a,oe,fs,rfl,if_pos rfl,haL,he,hc,hd,fun _=>h2,.inl h1⟩,h⟩
end
section
variable {d:Wd} {c:Cx} {σ:St}
theorem call_values {a:Addr} {kvs:List (Int×V)} {ep:Nat} {K:V->St->Prop} (hp:σ.hp a=some (.dictI kvs ep)) (h:K (.vals a) σ):CallV d c (.builtin "dict.values") [.obj a] [] σ K:=cl_r fun g s r=>by
  refine elEA (r.ob a _ hp).2.2.2 fun kv A5 q=>?_
  obtain D:=A5.dictOf
  refine call_meetsIn PySem.F.slot_dict_values D.typeIs PySem.F.entry_dict_values (PySem.F.args_dict_values_1 _) (meets_dict_values (intKind d.prog d.w) a (r.notSys hp)) ⟨⟨_,D⟩,?_⟩
  exact⟨_,.vals a,σ,r.pushed _ .frz s.toks,(r.chPush _ .frz).kp,.vals (gset_self ..) ⟨_,Heap.get?_push_size _ rfl,rfl,rfl⟩,h⟩
theorem iter_vals {a:Addr} {kvs:List (Int×V)} {ep:Nat} (hp:σ.hp a=some (.dictI kvs ep)):PyIter d c (.vals a) σ (kvs.map (·.2)) fun hp=>hp a=some (.dictI kvs ep):=⟨hp,fun g s x r rx Q E h=>by
 cases rx with | @vals v _ f hv =>
  refine elEA (r.ob a _ hp).2.2.2 fun ys D z=>?_
  refine wpAny_pyIter_values hv D ?_
  obtain r':=(r.pushIt { cls:=.type "dict_valueiterator",data:=.fields #[.ref a,.int 0 0,.int ys.length 0,.int ep 0] }).1;obtain k:=(r.pushIt { cls:=.type "dict_valueiterator",data:=.fields #[.ref a,.int 0 0,.int ys.length 0,.int ep 0] }).2
  refine h s.heap.objs.size (fun g h k=>g s.heap.objs.size = .prot/\h.IsValIter s.heap.objs.size a k kvs.length ep) _ _ ⟨?_,?_,?_,?_,?_⟩ r' ⟨gset_self ..,⟨_,Heap.get?_push_size _ rfl,rfl,by simp only[z.length];rfl⟩⟩ k (get_none_size _)
  ·intro g h k zr3
   obtain h1:=zr3.1;obtain hn1:=zr3.2
   try clear zr3
   obtain⟨o,ho,_,hd⟩:=hn1
   exact⟨h1,o,ho,fun v q=>by simp only[hd] at q;cases q⟩
  ·intro p g h g' h' k zr6 hp hf kp
   obtain h1:=zr6.1;obtain hn1:=zr6.2
   try clear zr6
   obtain⟨o,ho,z1⟩:=hn1
   exact⟨(kp.prot _ _ hp h1 ho).1,⟨o,(kp.prot _ _ hp h1 ho).2,z1⟩⟩
  ·intro c g s σ k x r hp zr8 hx Q E hQ
   refine elA zr8 fun h1 h2=>?_
   try clear zr8
   refine elAAAEA (r.ob a _ hp) fun uu uu uu ys D z=>?_
   simp only[z.length] at h2
   have hk:k < ys.length:=by
    have:=(List.getElem?_eq_some_iff.mp hx).1
    simp only[List.length_map,z.length] at this;exact this
   obtain hy:ys[k]? = some (ys[k].1,ys[k].2):=List.getElem?_eq_getElem hk
   obtain rv:RepV g s.heap x ys[k].2:=by
    obtain this:∀ {xs:List (Int×V)} {ys:List (Int×Value)} {k:Nat} {x:V} {y:Int×Value},RepKV g s.heap xs ys->(xs.map (·.2))[k]? = some x->ys[k]? = some y->RepV g s.heap x y.2:=by
     intro xs ys k x y z
     induction z generalizing k with
     | nil=>intro e;simp at e
     | cons a _ ih =>
      cases k with
      | zero=>intro e1 e2;simp at e1 e2;subst e1 e2;exact a
      | succ k=>intro e1 e2;exact ih (by simpa using e1) (by simpa using e2)
    exact this z hx hy
   refine wpAny_pyNext_values_item h2 D hy fun h' hi hs=>?_
   exact hQ _ h' s.toks (rv.mono (frz_ext h1 hs.extBut)) ⟨h1,by simp only[z.length];exact hi⟩ hs.extBut
  ·intro c g s σ k r hh hp zr8 hx Q E hQ
   refine elA zr8 fun h1 h2=>?_
   try clear zr8
   refine elAAAEA (r.ob a _ hp) fun uu uu uu ys D z=>?_
   rw[z.length] at h2
   refine wpAny_pyNext_values_end hh h2 D ?_ fun h' hs=>hQ h' s.toks hs
   obtain this:=List.getElem?_eq_none_iff.mp hx
   simp only[List.length_map,z.length] at this
   exact List.getElem?_eq_none_iff.mpr this
  ·rintro A g s k a Q E hQ
   obtain h1:=a.1;obtain hn1:=a.2
   try clear a
   refine elE hn1 fun o zz64=>?_;obtain ho:=zz64.1;obtain hc:=zz64.2.1;obtain hd:=zz64.2.2
   try clear hn1
   exact wpAny_pyIter_valiter ⟨o,ho,hc,hd⟩ hQ⟩
theorem del_dictI {a:Addr} {kvs:List (Int×V)} {ep:Nat} {k:Int} {K:Unit->St->Prop} (hp:σ.hp a=some (.dictI kvs ep)) (hz:kvs.length<=1000) (hk:(look k kvs).isSome=true) (h:∀ ep',K () (σ.upd a (.dictI (kvs.filter fun kv=>decide (kv.1≠k)) ep'))):DelI d c (.obj a) (.int k) σ K:=iv_ri fun g s r t=>by
  refine elEA (r.ob a _ hp).2.2.2 fun ys A5 q=>?_
  obtain D:=A5.dictOf
  delta delItem
  try with_reducible refine wpAny_holding ?_
  refine wpAny_bind (wpAny_sequenceKey D.typeIs (by decide) ?_)
  refine wpAny_bind (wpAny_callSpecial?_slot (name:=Str.ofString "__delitem__") D.typeIs PySem.F.slot_dict_delitem
   (call_meetsIn PySem.F.slot_dict_delitem D.typeIs PySem.F.entry_dict_delitem (PySem.F.args_dict_delitem_2 _ _) (meets_dict_delitem_pairs (intKind d.prog d.w) a (intKind_is _ _ k t)) ⟨ys,D,by simp only[<- q.length,sizeLine_eq];walk_at "o",by rw[q.at2];exact hk,fun h' A6 hs=>?_⟩))
  obtain k':=(r.ch1 hp hs).kp
  refine elE A6.dictAt fun ep' D'=>?_
  obtain r':=(r.upd1 (ao':=.dictI (kvs.filter fun kv=>decide (kv.1≠k)) ep') hp hs (s.toks+1) ⟨_,D',(q.mono k'.frz).without k⟩).1
  exact wpAny_pure ⟨g,(),_,r',k',rfl,h ep'⟩
theorem sub_listN {value slice:Expr} {a:Addr} {vs:List V} {v:V} {K:V->St->Prop} (hp:σ.hp a=some (.list (vs++[v]))) (hz:vs.length<=1000) (h:K v σ):Sub d c value slice (.obj a) (.int (-1)) σ K:=iv_ri fun g s r t=>by
  refine elEEA (r.ob a _ hp).2.2.2 fun items n e z=>?_
  obtain hsz:=szI z
  simp only[List.length_append,List.length_singleton] at hsz
  refine elE (z.get (i:=vs.length) (v:=v) (by simp)) fun cv zz83=>?_;obtain q1:=zz83.1;obtain q2:=zz83.2
  refine sub_ops (IsL.isList e).typeIs slot_list_getitem.lookup (wpAny_getItem_list_neg (x:=cv) (IsL.isList e) (by decide) (by simp only[hsz];exact Y31) (by decide) ?_ (.here r q2 h))
  simp only[hsz,show ((-1:Int)+((vs.length+1:Nat):Int)).toNat=vs.length by exact Y28]
  simpa using q1
theorem A_pair {K1 K3:Expr} {x1} {pos:Pos} {u v:V} {K:Unit->St->Prop} (hp:[K1,K3].all plainTarget=true) (hh:c.A.handled=none) (h:Asg d c K1 u σ fun _ L8=>Asg d c K3 v L8 K):Asg d c (.Tuple [K1,K3] x1 pos) (.tup [u,v]) σ K :=
 A_two (side:=fun _=>True) hp (unpack_it (xs:=[u,v]) hh iter_tup notIter_tup ⟨rfl,h⟩)
end
section
variable {d:Wd} {c:Cx} {σ:St}
structure MF (K:Frag) (C f:Addr) (name:Str):Prop where
 pg:plainGet K C name=true
 hd:hasDictIn K C=true
 fi:findIn K (.ref C) name=some (some (.ref f))
 fn:typeIn K (.ref f)=some (.type "function")
 gt:specialIn K (.ref f) "__get__" = some (some (.builtin "function.__get__"))
 tk:takesIn K (.ref f)=some false
 cp:copiedNames.contains name=false
 fk:fnIn K f=true
theorem getattr_meth {x C f:Addr} {fs:List (Str×V)} {name:Str} {expr:Bool} {g:Gh} {s:Shared} {y:Value} {Q:Value->Shared->Prop} {E:Value->Shared->Prop} (M:MF d.K C f name) (hp:σ.hp x=some (.inst C fs)) (hl:look name fs=none) (r:Rep d g c.A c.env σ s) (ry:RepV g s.heap (.obj x) y)
  (h:Q (.ref s.heap.objs.size) { s with heap:=s.heap.push (methodObj (.ref f) (.ref x)),toks:=s.toks+1 }):wpAny (model d.prog d.w) c.A (getAttr y name expr) Q E s:=by
 simp only[ry.r]
 ·
  obtain zz0:=(r.ob x _ hp).2.2.2
  refine elEEEAAAA zz0 fun dx es n ho hgd hx hd z=>?_
  rcases z.get name with ⟨e1,e2⟩ | ⟨v',cv,e1,_,_⟩
  ·exact get_bind r.inK ⟨ho,rfl,rfl,hd⟩ (plainGet_of M.pg).1 (findObj_fn (od:=dictOf es n) M.hd M.fi M.gt M.tk M.cp (by simp only[lookIn_dict,e2])) (plainGet_of M.pg).2
    (wpAny_call (fn_get (s:={ s with toks:=s.toks+1 }) r.inK M.fn (handed_on rfl h)))
  ·simp only[hl] at e1;cases e1
theorem meth_go {x f:Addr} {vs:List V} {K:V->St->Prop} {g E0:Gh} {s J5:Shared} {q:Addr} {ys:List Value} (hq:s.heap.get? q=some (methodObj (.ref f) (.ref x))) (r:Rep d g c.A c.env σ s) (ry:RepVs g s.heap vs ys) (k:Kp E0 J5.heap g s.heap) (h:CodeV d c (.ref f) (.obj x::vs) [] σ K) :
  wpAny (model d.prog d.w) c.A (call (.ref q) ([]++ys)) (PostQ d c E0 J5 RepV K) (PostX d c E0 J5) s:=by
 obtain z:wpAny (model d.prog d.w) c.A (call (.ref q) ys) (PostQ d c g s RepV K) (PostX d c g s) s:=wpAny_call (method_call hq (h g s (.ref x::ys) [] r (.cons (.raw _) ry) .nil))
 exact wpAny_mono z (fun _ _ z=>z.kp d k) fun _ _ z=>z.kp d k
theorem W_MethS2 {o e:Expr} {rest:List Expr} {name:Str} {apos pos:Pos} {K:V->St->Prop}
  (h:W d c o σ fun ov σ1=>∃ x C f fs,ov = .obj x/\σ1.hp x=some (.inst C fs)/\look name fs=none/\MF d.K C f name/\WL d c pos (e::rest) σ1 fun vs L8=>CodeV d c (.ref f) (.obj x::vs) [] L8 K)
  (hst:(backTo pos (starEach rest c.env)).any (·.1)=true) (hse:starEach (e::rest) c.env=(false,eval e c.env)::starEach rest c.env)
  (he:eval (.Call (.Attribute o name apos) (e::rest) [] pos) c.env=(do
   let ov <- eval o c.env
   standAt apos.atName
   let m <- holding [ov] (do pure (<- getAttr ov name true,([]:List Value)))
   callWith pos m.1 m.2 (backTo pos (starEach (e::rest) c.env)) []):=by rfl):W d c (.Call (.Attribute o name apos) (e::rest) [] pos) σ K:=fun g s r=>by
 simp only[he]
 refine wpAny_bind (Ev.b (h g s r) fun y J6 E1 v σ1 h1 h2 h3 zk=>elEEEEAAA zk fun x C f fs ev hp hl zl=>elA zl fun M hw=>?_)
 subst ev
 refine wpAny_bind (wpAny_standAt ?_)
 refine wpAny_bind (wpAny_holding (wpAny_bind (getattr_meth M hp hl h1 h3 (wpAny_pure ?_))))
 obtain R:=h1.pushed (methodObj (.ref f) (.ref x)) .frz (J6.toks+1)
 obtain k:=(h1.chPush (methodObj (.ref f) (.ref x)) .frz).kp
 obtain hq:(J6.heap.push (methodObj (.ref f) (.ref x))).get? J6.heap.objs.size=some (methodObj (.ref f) (.ref x)):=Heap.get?_push_size _ rfl
 dsimp only
 obtain hw':=hw _ _ R
 refine (?_:wpAny _ _ (callWith _ (.ref J6.heap.objs.size) [] _ _) _ _ _)
 simp only[hse] at hw' ⊢
 refine PySem.W.ks_call (P:=MethP d.K J6.heap.objs.size f (.ref x)) (by show (false||(backTo pos (starEach rest c.env)).any (·.1))=true;simp only[hst];rfl) (keeps_M M.fk) (evalArgs_plain ?_)
 refine wpAny_mono hw' (fun ys J7 zz=>zz.elim fun E2 vs L8 k1 k2 k3 k4=>?_) fun _ _ z=>z.kp d (h2.trans k)
 obtain hq2:=(k2.frz _ _ (gset_self ..) hq).2
 exact⟨⟨hq2,k1.inK⟩,meth_go hq2 k1 k3 ((h2.trans k).trans k2) k4⟩
theorem W_MethS {o e:Expr} {name:Str} {apos p pos:Pos} {K:V->St->Prop}
  (h:W d c o σ fun ov σ1=>∃ x C f fs,ov = .obj x/\σ1.hp x=some (.inst C fs)/\look name fs=none/\MF d.K C f name/\W d c e σ1 fun v L8=>∃ vs,seqOf L8 v=some vs/\vs.length<=1000/\CodeV d c (.ref f) (.obj x::vs) [] L8 K)
  (he:eval (.Call (.Attribute o name apos) [.Starred e p] [] pos) c.env=(do
   let ov <- eval o c.env
   standAt apos.atName
   let m <- holding [ov] (do pure (<- getAttr ov name true,([]:List Value)))
   callWith pos m.1 m.2 (backTo pos [(true,eval e c.env)]) []):=by rfl):W d c (.Call (.Attribute o name apos) [.Starred e p] [] pos) σ K:=fun g s r=>by
 simp only[he]
 refine wpAny_bind (Ev.b (h g s r) fun y J6 E1 v σ1 h1 h2 h3 zk=>elEEEEAAA zk fun x C f fs ev hp hl zl=>elA zl fun M hw=>?_)
 subst ev
 refine wpAny_bind (wpAny_standAt ?_)
 refine wpAny_bind (wpAny_holding (wpAny_bind (getattr_meth M hp hl h1 h3 (wpAny_pure ?_))))
 obtain R:=h1.pushed (methodObj (.ref f) (.ref x)) .frz (J6.toks+1)
 obtain k:=(h1.chPush (methodObj (.ref f) (.ref x)) .frz).kp
 obtain hq:(J6.heap.push (methodObj (.ref f) (.ref x))).get? J6.heap.objs.size=some (methodObj (.ref f) (.ref x)):=Heap.get?_push_size _ rfl
 dsimp only
 obtain hw':=hw _ _ R
 refine (?_:wpAny _ _ (callWith _ (.ref J6.heap.objs.size) [] _ _) _ _ _)
 refine PySem.W.ks_call (P:=MethP d.K J6.heap.objs.size f (.ref x)) rfl (keeps_M M.fk) (ks_lone ?_)
 refine wpAny_mono hw' (fun y J7 zz=>zz.elim fun E2 v L8 k1 k2 k3 zk=>elEAA zk fun vs e1 hz k4=>?_) fun _ _ z=>z.kp d (h2.trans k)
 refine star_rep e1 hz k1 k3 fun ys h' R' k' ry=>?_
 obtain hq2:=((k2.trans k').frz _ _ (gset_self ..) hq).2
 exact⟨⟨hq2,R'.inK⟩,meth_go hq2 R' ry ((h2.trans k).trans (k2.trans k')) k4⟩
end
local macro_rules | `(tactic| walk_at "m up") => `(tactic| first | assumption | exact updH_at | (refine Eq.trans (updH_ne ?_) ?_; (next => first | assumption | (apply Ne.symm; assumption)); (next => walk_at "m up")) | (refine Eq.trans (dropH_ne ?_) ?_; (next => first | assumption | (apply Ne.symm; assumption)); (next => walk_at "m up")))
local macro_rules | `(tactic| walk_at "m nolook") => `(tactic| kernel_rfl!)
local macro_rules | `(tactic| walk_at "m look0") => `(tactic| with_reducible first | exact look_hdS | (apply look_tlS; (next => kernel_rfl!); (next => walk_at "m look0")))
local macro_rules | `(tactic| walk_at "l") => `(tactic| first | with_reducible exact look_hdS | (show ?z_P; (obtain q : ?z_P := by walk_at "m look0"); clear q; kernel_rfl!))
local macro_rules | `(tactic| walk_at "m put0") => `(tactic| with_reducible first | exact put_nilS | exact put_hdS | (apply put_tlS; (next => kernel_rfl!); (next => walk_at "m put0")))
local macro_rules | `(tactic| walk_at "p") => `(tactic| first | with_reducible exact put_nilS | with_reducible exact put_hdS | (show ?z_P; (obtain q : ?z_P := by walk_at "m put0"); clear q; kernel_rfl!))
local macro_rules | `(tactic| walk_at "m gl") => do `(tactic| with_reducible first $[| $(<- alts "W_Flags:k? W_TopologicalSorter:k? W_NodeInfo:k? W_CycleError:k? W_sorted_list_difference:k? W_three_way_cmp:k? W_law_board:k? W_law_mine:k? W_law_play:k? W_law_book:k? W_law_closed:k? W_law_worth:k? W_law_settled:k? W_b_len:k? W_b_range:k? W_b_sorted:k? W_b_sum:k? W_b_isinstance:k? W_b_bool:k? W_b_tuple:k? W_b_set:k? W_b_iter:k? W_NODE_OUT:k? W_NODE_DONE:k?")]*)
local macro_rules | `(tactic| walk_at "m K") => do `(tactic| with_reducible first $[| $(<- alts "NotK_t NotK_f NotK_i NtK_t NtK_f NtK_i AndK_t AndK_f AndK_i OrK_t OrK_f OrK_i AndV2_t AndV2_f AndV2_i OrV2_t OrV2_f OrV2_i IfK_t IfK_f IfK_i IfS_t IfS_f IfS_i")]*)
local macro_rules | `(tactic| walk_at "m1") => do `(tactic| first
 | walk_at "m K"
 | (with_reducible first $[| $(<- alts "W_loc:klk? W_cel:klk? WB_cons WB_nil WS_Return WS_ReturnN WS_If W_int W_str W_bool W_none W_BinOp W_Compare WT_Compare W_UnaryOp W_Subscript W_IfExp bin_add bin_sub bin_subB cmp_eq cmp_ne cmp_lt cmp_gt cmp_le cmp_ge tru_bool tru_none WT_not WT_or_nil WT_and_nil WT_and WT_or W_and W_or W_bone WL_nil WL_cons:?k W_Slice WP_none WP_some")]*)
 | ((with_reducible show W _ _ (Expr.Call (Expr.Attribute _ _ _) _ _ _) _ _);refine W_Meth ?_)
 | (with_reducible first $[| $(<- alts "W_Call:?k CallF_raw PInt_int WC_bltn:k? WC_type:k? WC_K:kk? WA_nil WA_pos:?k WP2_nil WP2_cons A_sub A_att WT_plain:?k W_Attribute:?k WS_Assign:?kkk AsgAll_one AsgAll_two A_loc:kp? A_cel:kkkp? WS_Expr:?kk neg_intV not_V")]*)
 | (with_reducible show Then _ _ _ _ _ _;dsimp only [Then])
 | (with_reducible show FK _ _ _ _ _;dsimp only [FK])
 | (with_reducible show FW _ _ _ _;dsimp only [FW])
 | (with_reducible show KF _ _ _ _;dsimp only [KF])
 | walk_at "m gl")
local macro_rules | `(tactic| walk_at "w") => `(tactic| repeat walk_at "m1")
section
variable {d:Wd} {c:Cx} {σ:St}
noncomputable def fd211 (P:Params):FuncData:=fnData (o211 P)
theorem ok211 (d:Wd):FnOk d 211 (fd211 d.w.params) (kidS S11) [ofS "x",ofS "y"]:=⟨⟨o211 d.w.params,by kernel_rfl!,by kernel_rfl!⟩,by kernel_rfl!,by kernel_rfl!,by kernel_rfl!,fun L=>by kernel_rfl!,by kernel_rfl!,by kernel_rfl!,by kernel_rfl!,by kernel_rfl!,by kernel_rfl!,by kernel_rfl!⟩
theorem bind2 {fd:FuncData} {a b:V} {x y:Str} (h:∀ u v:Value,bindArgs fd ⟨[u,v],[]⟩=pure [(x,u),(y,v)]):BindV d c fd [a,b] [] [(x,a),(y,b)] σ:=bind_plain (names:=[x,y]) rfl fun xs hx=>elEE (len2 hx) fun u v e=>by rw[e];exact h u v
theorem three_way_cmp_spec {a b:Int} {K:V->St->Prop} (R:Rm c.A 1) (h:K (.int ((if a > b then 1 else 0) - if a < b then 1 else 0)) σ):CallV d c (.ref 211) [.int a,.int b] [] σ K:=by
 refine CallV_ok (bs:=[(ofS "x",.int a),(ofS "y",.int b)]) (ok211 d) (by have:=R.depth;unfold recursionLimit;exact Y47 this) (bind2 fun u v=>rfl) (fun L=>?_)
 refine WB_cons ?_
 walk_at "w"
 simpa [KF,Then,RetK] using h
noncomputable def mineM (b:Bd) (key:Key):Bool:=decide (key∈b.m1) || !decide ((b.m2.filter fun one=>decide (key.take one.length=one))=[])
noncomputable def fd221 (P:Params):FuncData:=fnData (o221 P)
theorem ok221 (d:Wd):FnOk d 221 (fd221 d.w.params) (kidS S14) [ofS "key",ofS "board"]:=⟨⟨o221 d.w.params,by kernel_rfl!,by kernel_rfl!⟩,by kernel_rfl!,by kernel_rfl!,by kernel_rfl!,fun L=>by kernel_rfl!,by kernel_rfl!,by kernel_rfl!,by kernel_rfl!,by kernel_rfl!,by kernel_rfl!,by kernel_rfl!⟩
theorem Rm.in {A:Around} {fd:FuncData} {L fa:Addr} {n:Nat} (R:Rm A (n+1)):Rm (A.deeper (callEnvC fd L fa)) n:=⟨by have:=R.depth;show A.depth+1+n<=_;exact Y130 this,by have:=R.units;show A.units+3+20 * n<=_;exact Y139 this,R.handled⟩
theorem Rm.room {A:Around} {n:Nat} (R:Rm A n):A.depth < recursionLimit:=by have:=R.depth;unfold recursionLimit;exact Y145 this
theorem law_mine_spec {key:Key} {b:Bd} {K:V->St->Prop} (R:Rm c.A 1) (hz:b.m2.length<=1000) (hk:key.length<=1000) (hm2:∀ one∈b.m2,one.length<=1000) (h:K (.bool (mineM b key)) σ):CallV d c (.ref 221) [kV key,bV b] [] σ K:=by
 refine CallV_ok (bs:=[(ofS "key",kV key),(ofS "board",bV b)]) (ok221 d) R.room (bind2 fun u v=>rfl) (fun L=>?_)
 have R':Rm (cxOf c.A (fd221 d.w.params) L 221).A 0:=R.in
 refine WB_cons ?_
 walk_at "w"
 refine sub_lst (v:=ksV b.m1) (by decide) (by decide) rfl ?_
 refine cmp_inK R' ?_
 walk_at "w"
 split
 ·rename_i hm
  walk_at "w"
  unfold mineM at h
  rw[hm] at h ⊢
  simpa [KF,Then,RetK] using h
 ·rename_i hm
  walk_at "w"
  refine W_Cmp2 true (l:=[(ofS "key",kV key)]) (by kernel_rfl!) R'.handled ?_
  walk_at "w"
  refine sub_lst (v:=ksV b.m2) (by decide) (by decide) rfl ?_
  refine ⟨_,_,iter_lst,by simpa using hz,⟨by walk_at "l",trivial⟩,fun C=>?_⟩
  refine comp_pure (e:=kV) (p:=fun one=>decide (key.take one.length=one)) (fun v=>[(ofS "key",kV key),(ofS "one",v)]) (by kernel_rfl!) (fun v=>by walk_at "p") (fun u v=>by walk_at "p") trivial b.m2 (fun one ho=>?_) (fun one _ _=>?_) _ ?_
  ·show WT d _ _ _ _
   walk_at "w"
   refine call_lenT (by simpa using hm2 one ho) ?_
   walk_at "w"
   rw[List.length_map]
   refine sub_cutK hk ?_
   walk_at "w"
   refine cmp_eqK R' ?_
   walk_at "w"
   exact⟨rfl,rfl⟩
  ·walk_at "w"
   exact⟨rfl,rfl⟩
  ·show W d _ _ _ _
   refine W_List ?_
   walk_at "w"
   refine ⟨by simp,?_⟩
   refine cmp_neKs (b:=[]) R' ?_
   walk_at "w"
   unfold mineM at h
   have hm':decide (key∈b.m1)=false:=by simpa using hm
   rw[hm',Bool.false_or] at h
   exact h
end
section
variable {d:Wd} {c:Cx} {σ:St}
structure Mk where
 f0:Bool
 f1:Bool
 r0:Bool
 r1:Bool
noncomputable def mkS (b0 b1:Bool):Int->Bool:=fun k=>(decide (k=0)&&b0)||(decide (k=1)&&b1)
noncomputable def mkN (b0 b1:Bool):Nat:=b0.toNat+b1.toNat
noncomputable def Mk.f (m:Mk):Int->Bool:=mkS m.f0 m.f1
noncomputable def Mk.r (m:Mk):Int->Bool:=mkS m.r0 m.r1
noncomputable abbrev FM:=Key->Option Mk
structure Lays (hp:Addr->Option AO) (D0:Addr) (F:FM) (lab:Addr->Option (Fin 4×Key)):Prop where
 root:lab D0=some (0,[])
 kids:∀ a p,lab a=some (0,p)->∃ kvs,hp a=some (.dictS kvs)/\(∃ ns:List (Fin 4),ns.Nodup/\kvs.map (·.1)=ns.map nmS) /\
  ∀ n:Fin 4,match F (p++[n]) with
   | none=>look (nmS n) kvs=none
   | some _=>∃ b,look (nmS n) kvs=some (.obj b)/\lab b=some (1,p++[n])
 node:∀ a p,lab a=some (1,p)->∃ f r dd,hp a=some (.dictS [(ofS "flags",.obj f),(ofS "recursive_flags",.obj r),(ofS "nested",.obj dd)])/\lab f=some (2,p)/\lab r=some (3,p)/\lab dd=some (0,p)/\(F p).isSome=true
 fl:∀ a p,lab a=some (2,p)->∃ m,F p=some m/\hp a=some (.setI m.f (mkN m.f0 m.f1))
 rf:∀ a p,lab a=some (3,p)->∃ m,F p=some m/\hp a=some (.setI m.r (mkN m.r0 m.r1))
 closed:∀ p n,(F (p++[n])).isSome=true->p≠[]->(F p).isSome=true
 inj:∀ a b q,lab a=some q->lab b=some q->a=b
 kd:∀ a p,lab a=some (0,p)->p=[]\/(F p).isSome=true
structure Flg (hp:Addr->Option AO) (x:Addr) (F:FM) (P:Addr):Prop where
 lays:∃ D0 lab,hp x=some (.inst 73 [(ofS "_flags",.obj D0),(ofS "_pending_flags",.obj P)])/\Lays hp D0 F lab
noncomputable def isGo (F:FM) (fl:Int) (l:Fin 4):Key->Key->Bool
 | pre,[]=>match F (pre++[l]) with
  | none=>false
  | some m=>m.f fl||m.r fl
 | pre,k::ks=>match F (pre++[k]) with
  | none=>false
  | some m=>m.r fl||isGo F fl l (pre++[k]) ks
noncomputable def isM (F:FM) (fl:Int) (key:Key):Bool:=match key.getLast? with
 | none=>false
 | some l=>isGo F fl l [] key.dropLast
theorem att_F {x:Addr} {fs:List (Str×V)} {v:V} {expr:Bool} {K:V->St->Prop} (hp:σ.hp x=some (.inst 73 fs)) (hl:look (ofS "_flags") fs=some v) (hv:handV v=true) (h:K v σ):Att d c (.obj x) (ofS "_flags") expr σ K :=
 att_inst (d:=d) (attr:=none) hp hl (by kernel_rfl!) (by kernel_rfl!) (by kernel_rfl!) (by kernel_rfl!) hv h
theorem att_P {x:Addr} {fs:List (Str×V)} {v:V} {expr:Bool} {K:V->St->Prop} (hp:σ.hp x=some (.inst 73 fs)) (hl:look (ofS "_pending_flags") fs=some v) (hv:handV v=true) (h:K v σ):Att d c (.obj x) (ofS "_pending_flags") expr σ K :=
 att_inst (d:=d) (attr:=none) hp hl (by kernel_rfl!) (by kernel_rfl!) (by kernel_rfl!) (by kernel_rfl!) hv h
theorem key_last {key:Key} (h:key≠[]):∃ init l,key=init++[l]:=⟨key.dropLast,key.getLast h,(List.dropLast_concat_getLast h).symm⟩
theorem sub_last {value slice:Expr} {init:Key} {l:Fin 4} {K:V->St->Prop} (h:K (nV l) σ):Sub d c value slice (kV (init++[l])) (.int (-1)) σ K :=
 sub_tup (j:=init.length) (v:=nV l) (by decide) (by decide) (by
  rw[List.length_map,List.length_append]
  show seqIndex? (-1) (init.length+1)=_
  unfold seqIndex?
  simp<;>exact Y29) (by simp) h
theorem bind3 {fd:FuncData} {a b e:V} {x y z:Str} (h:∀ u v w:Value,bindArgs fd ⟨[u,v,w],[]⟩=pure [(x,u),(y,v),(z,w)]):BindV d c fd [a,b,e] [] [(x,a),(y,b),(z,e)] σ:=bind_plain (names:=[x,y,z]) rfl fun xs hx=>elEEE (len3 hx) fun u v w e=>by rw[e];exact h u v w
noncomputable def fd70 (P:Params):FuncData:=fnData (o70 P)
theorem ok70 (d:Wd):FnOk d 70 (fd70 d.w.params) (kidS S2_7) [ofS "self",ofS "key",ofS "flag"]:=⟨⟨o70 d.w.params,by kernel_rfl!,by kernel_rfl!⟩,by kernel_rfl!,by kernel_rfl!,by kernel_rfl!,fun L=>by kernel_rfl!,by kernel_rfl!,by kernel_rfl!,by kernel_rfl!,by kernel_rfl!,by kernel_rfl!,by kernel_rfl!⟩
theorem is_spec {x P:Addr} {F:FM} {key:Key} {fl:Int} {K:V->St->Prop} (R:Rm c.A 1) (hz:key.length<=1000) (H:Flg σ.hp x F P) (h:K (.bool (isM F fl key)) σ):CallV d c (.ref 70) [.obj x,kV key,.int fl] [] σ K:=by
 refine CallV_ok (bs:=[(ofS "self",.obj x),(ofS "key",kV key),(ofS "flag",.int fl)]) (ok70 d) R.room (bind3 fun u v w=>rfl) (fun L=>?_)
 have R':Rm (cxOf c.A (fd70 d.w.params) L 70).A 0:=R.in
 refine elEEA H.lays fun D0 lab hx Ly=>?_
 refine WB_cons ?_
 walk_at "w"
 refine tru_tup (by simpa using hz) ?_
 by_cases hk:key=[]
 ·subst hk
  simp only[List.map_nil,List.isEmpty_nil,Bool.not_true,Bool.not_false,if_true]
  walk_at "w"
  exact h
 obtain⟨init,l,rfl⟩:∃ init l,key=init++[l]:=key_last hk
 have e0:(!((init++[l]).map nV).isEmpty)=true:=by simp
 rw[e0]
 try simp only[Bool.false_eq_true,if_false]
 walk_at "w"
 refine att_F hx (by walk_at "l") rfl ?_
 walk_at "w"
 refine WS_For (fun _ _ q=>q) R'.handled ?_
 walk_at "w"
 refine sub_cutM hz ?_
 have h':K (.bool (isGo F fl l [] init)) σ:=by
  unfold isM at h
  simpa using h
 refine ⟨_,_,iter_tup,?_⟩
 rw[List.dropLast_concat]
 refine (fun G:(∀ (ks pre:Key) (a:Addr),lab a=some (0,pre)->K (.bool (isGo F fl l pre ks)) σ->ForRun d _ _ _ _ _ _ (ks.map nV) ⟨lk [(ofS "self",.obj x),(ofS "key",kV (init++[l])),(ofS "flag",.int fl),(ofS "cont",.obj a)],σ.hp⟩)=>G init [] D0 Ly.root h') ?_
 intro ks
 induction ks with
 | nil =>
  intro pre a ha h'
  show WB d _ _ _ _
  refine elEAA (Ly.kids a pre ha) fun kvs hkv uu hq=>?_
  have hql:=hq l
  walk_at "w"
  refine sub_last ?_
  walk_at "w"
  refine cmp_inS hkv ?_
  walk_at "w"
  unfold isGo at h'
  cases hF:F (pre++[l]) with
  | none =>
   rw[hF] at hql h'
   rw[hql]
   try simp only[Option.isSome_none,Bool.false_eq_true,if_false]
   walk_at "w"
   exact h'
  | some m =>
   rw[hF] at hql h'
   refine elEA hql fun b hb lb=>?_
   try clear hql
   refine elEEEAAAA (Ly.node b _ lb) fun fa ra da hN lf lr ld uu=>?_
   refine elEA (Ly.fl fa _ lf) fun m1 e1 hf=>?_
   refine elEA (Ly.rf ra _ lr) fun m2 e2 hr=>?_
   rw[hF] at e1 e2
   cases e1;cases e2
   rw[hb]
   try simp only[Option.isSome_some,if_true]
   walk_at "w"
   refine sub_dictS hkv hb ?_
   walk_at "w"
   refine sub_dictS hN (by walk_at "l") ?_
   walk_at "w"
   refine cmp_inSet hf ?_
   walk_at "w"
   have h'':K (.bool (m.f fl||m.r fl)) σ:=h'
   split
   ·rename_i q
    walk_at "w"
    rw[q] at h'' ⊢
    exact h''
   ·rename_i q
    have q':m.f fl=false:=by simpa using q
    rw[q',Bool.false_or] at h''
    walk_at "w"
    refine sub_dictS hN (by walk_at "l") ?_
    walk_at "w"
    refine cmp_inSet hr ?_
    walk_at "w"
    exact h''
 | cons k ks ih =>
  intro pre a ha h'
  show Asg d _ _ _ _ _
  refine elEAA (Ly.kids a pre ha) fun kvs hkv uu hq=>?_
  have hqk:=hq k
  walk_at "w"
  refine cmp_notInS hkv ?_
  walk_at "w"
  unfold isGo at h'
  cases hF:F (pre++[k]) with
  | none =>
   rw[hF] at hqk h'
   rw[hqk]
   try simp only[Option.isSome_none,Bool.not_false,if_true]
   walk_at "w"
   exact h'
  | some m =>
   rw[hF] at hqk h'
   refine elEA hqk fun b hb lb=>?_
   try clear hqk
   refine elEEEAAAA (Ly.node b _ lb) fun fa ra da hN lf lr ld uu=>?_
   refine elEA (Ly.rf ra _ lr) fun m2 e2 hr=>?_
   rw[hF] at e2
   cases e2
   rw[hb]
   try simp only[Option.isSome_some,Bool.not_true,Bool.false_eq_true,if_false]
   walk_at "w"
   refine sub_dictS hkv hb ?_
   walk_at "w"
   refine sub_dictS hN (by walk_at "l") ?_
   walk_at "w"
   refine cmp_inSet hr ?_
   walk_at "w"
   have h'':K (.bool (m.r fl||isGo F fl l (pre++[k]) ks)) σ:=h'
   split
   ·rename_i q
    walk_at "w"
    rw[q,Bool.true_or] at h''
    exact h''
   ·rename_i q
    have q':m.r fl=false:=by simpa using q
    rw[q',Bool.false_or] at h''
    walk_at "w"
    refine sub_dictS hN (by walk_at "l") ?_
    walk_at "w"
    refine ⟨trivial,ForRun.sub (le_loc (l':=[(ofS "self",.obj x),(ofS "key",kV (init++[l])),(ofS "flag",.int fl),(ofS "cont",.obj da)]) ⟨by walk_at "l",by walk_at "l",by walk_at "l",by walk_at "l",trivial⟩) (ih _ _ ld h'')⟩
end
section
variable {d:Wd} {c:Cx} {σ:St}
noncomputable def cutF (F:FM) (key:Key):FM:=fun p=>if key.isPrefixOf p=true then none else F p
noncomputable def KeepF (hp hp':Addr->Option AO):Prop:=∀ b ao,hp b=some ao->(∀ kvs,ao ≠ .dictS kvs)->(∀ S n,ao ≠ .setI S n)->hp' b=some ao
theorem KeepF.refl (hp:Addr->Option AO):KeepF hp hp:=fun _ _ e _ _=>e
theorem pre_snoc {key p:Key} {n:Fin 4} (h:¬ key.isPrefixOf p=true):key.isPrefixOf (p++[n])=true ↔ key=p++[n]:=by
 simp only[List.isPrefixOf_iff_prefix] at h ⊢
 constructor
 ·intro q
  rcases List.prefix_concat_iff.mp q with z | z
  ·exact z
  ·exact absurd z h
 ·rintro rfl;exact List.prefix_refl _
theorem closed_ext {F:FM} (hc:∀ p n,(F (p++[n])).isSome=true->p≠[]->(F p).isSome=true):∀ (r q:Key),q≠[]->F q=none->F (q++r)=none
 | [],q,_,hn=>by simpa using hn
 | n::r,q,hq,hn=>by
  have h1:F (q++[n])=none:=by
   cases e:F (q++[n]) with
   | none=>rfl
   | some m=>have:=hc q n (by rw[e];rfl) hq;rw[hn] at this;cases this
  have:=closed_ext hc r (q++[n]) (by simp) h1
  simpa using this
theorem cutF_none {F:FM} (hc:∀ p n,(F (p++[n])).isSome=true->p≠[]->(F p).isSome=true) {pre ks:Key} {k:Fin 4} (hn:F (pre++[k])=none) (l:Fin 4):cutF F (pre++k::ks++[l])=F:=by
 funext p
 unfold cutF
 split
 ·rename_i h
  rw[List.isPrefixOf_iff_prefix] at h
  refine elE h fun r hq1=>?_
  try clear h
  subst hq1
  have:=closed_ext hc (ks++[l]++r) (pre++[k]) (by simp) hn
  rw[<- this]
  congr 1
  simp
 ·rfl
theorem look_filter {k n:Str} {kvs:List (Str×V)} (h:n≠k):look n (kvs.filter fun kv=>decide (kv.1≠k))=look n kvs:=by
 induction kvs with
 | nil=>rfl
 | cons kv r ih =>
  obtain⟨x,v⟩:=kv
  by_cases q:x=k
  ·rw[List.filter_cons_of_neg (by simpa using q),ih]
   conv=>rhs;unfold look
   rw[if_neg (fun e=>h (e.symm.trans q))]
  ·rw[List.filter_cons_of_pos (by simpa using q)]
   conv=>lhs;unfold look
   conv=>rhs;unfold look
   rw[ih]
theorem look_filter_self {k:Str} {kvs:List (Str×V)}:look k (kvs.filter fun kv=>decide (kv.1≠k))=none:=by
 induction kvs with
 | nil=>rfl
 | cons kv r ih =>
  obtain⟨x,v⟩:=kv
  by_cases q:x=k
  ·rw[List.filter_cons_of_neg (by simpa using q),ih]
  ·rw[List.filter_cons_of_pos (by simpa using q)]
   unfold look
   rw[if_neg q,ih]
theorem nmS_ne {a b:Fin 4} (h:a≠b):nmS a≠nmS b:=fun e=>h (of_decide_eq_true ((nmS_inj a b).symm.trans (decide_eq_true e)))
theorem filter_names {ns:List (Fin 4)} {kvs:List (Str×V)} {l:Fin 4} (h:kvs.map (·.1)=ns.map nmS):(kvs.filter fun kv=>decide (kv.1≠nmS l)).map (·.1)=(ns.filter fun n=>decide (n≠l)).map nmS:=by
 induction kvs generalizing ns with
 | nil=>cases ns with
  | nil=>rfl
  | cons _ _=>simp at h
 | cons kv r ih=>cases ns with
  | nil=>simp at h
  | cons n ns =>
   simp only[List.map_cons,List.cons.injEq] at h
   by_cases q:n=l
   ·rw[List.filter_cons_of_neg (by rw[h.1,q];simp),List.filter_cons_of_neg (by simpa using q)]
    exact ih h.2
   ·rw[List.filter_cons_of_pos (by rw[h.1];simpa using nmS_ne q),List.filter_cons_of_pos (by simpa using q),List.map_cons,List.map_cons,ih h.2,h.1]
theorem Lays.cut {hp:Addr->Option AO} {D0:Addr} {F:FM} {lab:Addr->Option (Fin 4×Key)} (Ly:Lays hp D0 F lab) {pre:Key} {l:Fin 4} {a:Addr} {kvs:List (Str×V)} (ha:lab a=some (0,pre)) (hkv:hp a=some (.dictS kvs)) :
  Lays (fun b=>if b=a then some (.dictS (kvs.filter fun kv=>decide (kv.1≠nmS l))) else hp b) D0 (cutF F (pre++[l])) (fun b=>match lab b with | some (i,p)=>if (pre++[l]).isPrefixOf p=true then none else some (i,p) | none=>none):=by
 have hl:∀ {b i p},(match lab b with | some (i,p)=>if (pre++[l]).isPrefixOf p=true then none else some (i,p) | none=>none)=some (i,p)->lab b=some (i,p)/\¬ (pre++[l]).isPrefixOf p=true:=by
  intro b i p h
  cases e:lab b with
  | none=>rw[e] at h;cases h
  | some ip =>
   rw[e] at h
   obtain⟨i',p'⟩:=ip
   dsimp only at h
   split at h
   ·cases h
   ·rename_i q;cases h;exact⟨rfl,q⟩
 have hr:∀ {b i p},lab b=some (i,p)->¬ (pre++[l]).isPrefixOf p=true->(match lab b with | some (i,p)=>if (pre++[l]).isPrefixOf p=true then none else some (i,p) | none=>none)=some (i,p):=by
  intro b i p h q
  rw[h];dsimp only;rw[if_neg q]
 have cF:∀ {p},¬ (pre++[l]).isPrefixOf p=true->cutF F (pre++[l]) p=F p:=fun q=>if_neg q
 have nea:∀ {b i p},lab b=some (i,p)->i≠0->b≠a:=fun e hi q=>by rw[q,ha] at e;cases e;exact hi rfl
 refine ⟨hr Ly.root (by simp),fun b p e=>?_,fun b p e=>?_,fun b p e=>?_,fun b p e=>?_,fun p n e hp=>?_,fun b b' q e1 e2=>?_,fun b p e=>?_⟩
 ·refine elA (hl e) fun e1 e2=>?_
  by_cases hb:b=a
  ·subst hb
   rw[ha] at e1;cases e1
   refine elEAA (Ly.kids b pre ha) fun kvs' h1 hn2 h3=>?_
   refine elEA hn2 fun ns hn hm=>?_
   try clear hn2
   rw[hkv] at h1;cases h1
   refine ⟨_,if_pos rfl,⟨_,hn.filter _,filter_names hm⟩,fun n=>?_⟩
   by_cases hnl:n=l
   ·subst hnl
    rw[show cutF F (pre++[n]) (pre++[n])=none from if_pos (by simp)]
    exact look_filter_self
   ·have hnp:¬ (pre++[l]).isPrefixOf (pre++[n])=true:=fun z=>hnl (by
     have:=(pre_snoc e2).mp z
     simpa using this.symm)
    rw[cF hnp]
    have:=h3 n
    cases hF:F (pre++[n]) with
    | none=>rw[hF] at this;rw[look_filter (nmS_ne hnl)];exact this
    | some m =>
     rw[hF] at this
     refine elEA this fun b' q1 q2=>?_
     try clear this
     exact⟨b',by rw[look_filter (nmS_ne hnl)];exact q1,hr q2 hnp⟩
  ·refine elEAA (Ly.kids b p e1) fun kvs' h1 h2 h3=>?_
   refine ⟨kvs',(if_neg hb).trans h1,h2,fun n=>?_⟩
   have hnp:¬ (pre++[l]).isPrefixOf (p++[n])=true:=fun z=>by
    have:=(pre_snoc e2).mp z
    have hpp:pre=p:=by
     have h4:=congrArg List.dropLast this
     simpa using h4
    exact hb (Ly.inj b a (0,pre) (hpp ▸ e1) ha)
   rw[cF hnp]
   have:=h3 n
   cases hF:F (p++[n]) with
   | none=>rw[hF] at this;exact this
   | some m =>
    rw[hF] at this
    refine elEA this fun b' q1 q2=>?_
    try clear this
    exact⟨b',q1,hr q2 hnp⟩
 ·refine elA (hl e) fun e1 e2=>?_
  refine elEEEAAAA (Ly.node b p e1) fun f r dd h1 h2 h3 h4 h5=>?_
  exact⟨f,r,dd,(if_neg (nea e1 (by decide))).trans h1,hr h2 e2,hr h3 e2,hr h4 e2,by rw[cF e2];exact h5⟩
 ·refine elA (hl e) fun e1 e2=>?_
  refine elEA (Ly.fl b p e1) fun m h1 h2=>?_
  exact⟨m,by rw[cF e2];exact h1,(if_neg (nea e1 (by decide))).trans h2⟩
 ·refine elA (hl e) fun e1 e2=>?_
  refine elEA (Ly.rf b p e1) fun m h1 h2=>?_
  exact⟨m,by rw[cF e2];exact h1,(if_neg (nea e1 (by decide))).trans h2⟩
 ·have q1:¬ (pre++[l]).isPrefixOf (p++[n])=true:=fun z=>by
   rw[show cutF F (pre++[l]) (p++[n])=none from if_pos z] at e;cases e
  have q2:¬ (pre++[l]).isPrefixOf p=true:=fun z=>q1 (by
   rw[List.isPrefixOf_iff_prefix] at z ⊢
   exact z.trans (List.prefix_append _ _))
  rw[cF q1] at e
  rw[cF q2]
  exact Ly.closed p n e hp
 ·obtain⟨i,p⟩:=q
  exact Ly.inj b b' _ (hl e1).1 (hl e2).1
 ·refine elA (hl e) fun e1 e2=>?_
  rw[cF e2];exact Ly.kd b p e1
theorem cutF_self {F:FM} (hc:∀ p n,(F (p++[n])).isSome=true->p≠[]->(F p).isSome=true) {key:Key} (hk:key≠[]) (hn:F key=none):cutF F key=F:=by
 funext p
 unfold cutF
 split
 ·rename_i h
  rw[List.isPrefixOf_iff_prefix] at h
  refine elE h fun r hq1=>?_
  try clear h
  subst hq1
  exact (closed_ext hc r key hk hn).symm
 ·rfl
theorem nodup_le {α:Type} [DecidableEq α]:∀ (l m:List α),l.Nodup->(∀ a∈l,a∈m)->l.length<=m.length
 | [],_,_,_=>Nat.zero_le _
 | a::l,m,hn,hs=>by
  rw[List.nodup_cons] at hn
  have ha:a∈m:=hs a (.head _)
  have:=nodup_le l (m.erase a) hn.2 fun b hb=>(List.mem_erase_of_ne (a:=b) (b:=a) (fun e=>hn.1 (by rw[<- e];exact hb))).mpr (hs b (.tail _ hb))
  rw[List.length_erase_of_mem ha] at this
  have:0 < m.length:=List.length_pos_of_mem ha
  simp only[List.length_cons]
  omega
theorem fin4_len {ns:List (Fin 4)} (h:ns.Nodup):ns.length<=4:=nodup_le ns [0,1,2,3] h fun a _=>by
 have:∀ a:Fin 4,a∈[(0:Fin 4),1,2,3]:=by decide
 exact this a
theorem names_len {ns:List (Fin 4)} {kvs:List (Str×V)} (h:ns.Nodup) (hm:kvs.map (·.1)=ns.map nmS):kvs.length<=4:=by
 have:=congrArg List.length hm
 simp only[List.length_map] at this
 rw[this];exact fin4_len h
noncomputable def fd56 (P:Params):FuncData:=fnData (o56 P)
theorem ok56 (d:Wd):FnOk d 56 (fd56 d.w.params) (kidS S2_5) [ofS "self",ofS "key"]:=⟨⟨o56 d.w.params,by kernel_rfl!,by kernel_rfl!⟩,by kernel_rfl!,by kernel_rfl!,by kernel_rfl!,fun L=>by kernel_rfl!,by kernel_rfl!,by kernel_rfl!,by kernel_rfl!,by kernel_rfl!,by kernel_rfl!,by kernel_rfl!⟩
theorem unset_spec {x P:Addr} {F:FM} {key:Key} {K:V->St->Prop} (R:Rm c.A 1) (hz:key.length<=1000) (hk:key≠[]) (H:Flg σ.hp x F P) (h:∀ hp',Flg hp' x (cutF F key) P->KeepF σ.hp hp'->K .none ⟨σ.loc,hp'⟩):CallV d c (.ref 56) [.obj x,kV key] [] σ K:=by
 refine CallV_ok (bs:=[(ofS "self",.obj x),(ofS "key",kV key)]) (ok56 d) R.room (bind2 fun u v=>rfl) (fun L=>?_)
 have R':Rm (cxOf c.A (fd56 d.w.params) L 56).A 0:=R.in
 refine elEEA H.lays fun D0 lab hx Ly=>?_
 refine elEE (key_last hk) fun init l hq2=>?_
 subst hq2
 refine WB_cons ?_
 walk_at "w"
 refine att_F hx (by walk_at "l") rfl ?_
 walk_at "w"
 refine WS_For (fun _ _ q=>q) R'.handled ?_
 walk_at "w"
 refine sub_cutM hz ?_
 refine ⟨_,_,iter_tup,?_⟩
 rw[List.dropLast_concat]
 refine (fun G:(∀ (ks pre:Key) (a:Addr),lab a=some (0,pre)->pre++ks=init->ForRun d _ _ _ _ _ _ (ks.map nV) ⟨lk [(ofS "self",.obj x),(ofS "key",kV (init++[l])),(ofS "cont",.obj a)],σ.hp⟩)=>G init [] D0 Ly.root rfl) ?_
 intro ks
 induction ks with
 | nil =>
  intro pre a ha hp
  show WB d _ _ _ _
  refine elEAA (Ly.kids a pre ha) fun kvs hkv hn2 hq=>?_
  refine elEA hn2 fun ns hns hm=>?_
  try clear hn2
  rw[List.append_nil] at hp
  subst hp
  walk_at "w"
  refine getM_dictS hkv PySem.F.slot_dict_pop PySem.F.type_dict_pop ?_
  walk_at "w"
  refine sub_last ?_
  walk_at "w"
  refine call_popS hkv (by have:=names_len hns hm;exact Y105 this) fun v=>?_
  have hql:=hq l
  cases hF:F (pre++[l]) with
  | none =>
   rw[hF] at hql
   rw[hql]
   walk_at "w"
   refine h σ.hp ?_ (KeepF.refl _)
   rw[cutF_self Ly.closed hk hF]
   exact H
  | some m =>
   rw[hF] at hql
   refine elEA hql fun b hb uu=>?_
   try clear hql
   rw[hb]
   walk_at "w"
   have hxa:x≠a:=fun e=>clA hkv hx e
   refine h _ ⟨D0,_,(if_neg hxa).trans hx,Ly.cut ha hkv⟩ fun b ao e h1 h2=>?_
   have hba:b≠a:=fun q=>by rw[q] at e;have e':σ.hp a=some ao:=e;rw[hkv] at e';cases e';exact h1 _ rfl
   exact (if_neg hba).trans e
 | cons k ks ih =>
  intro pre a ha hp
  show Asg d _ _ _ _ _
  refine elEAA (Ly.kids a pre ha) fun kvs hkv uu hq=>?_
  have hqk:=hq k
  walk_at "w"
  refine cmp_notInS hkv ?_
  walk_at "w"
  cases hF:F (pre++[k]) with
  | none =>
   rw[hF] at hqk
   rw[hqk]
   try simp only[Option.isSome_none,Bool.not_false,if_true]
   walk_at "w"
   refine h σ.hp ?_ (KeepF.refl _)
   rw[<- hp,cutF_none Ly.closed hF]
   exact H
  | some m =>
   rw[hF] at hqk
   refine elEA hqk fun b hb lb=>?_
   try clear hqk
   refine elEEEAAAA (Ly.node b _ lb) fun fa ra da hN lf lr ld uu=>?_
   rw[hb]
   try simp only[Option.isSome_some,Bool.not_true,Bool.false_eq_true,if_false]
   walk_at "w"
   refine sub_dictS hkv hb ?_
   walk_at "w"
   refine sub_dictS hN (by walk_at "l") ?_
   walk_at "w"
   refine ⟨trivial,ForRun.sub (le_loc (l':=[(ofS "self",.obj x),(ofS "key",kV (init++[l])),(ofS "cont",.obj da)]) ⟨by walk_at "l",by walk_at "l",by walk_at "l",trivial⟩) (ih _ _ ld (by rw[<- hp];simp))⟩
end
section
variable {d:Wd} {c:Cx} {σ:St}
noncomputable def mk0:Mk:=⟨false,false,false,false⟩
theorem mkS0:mkS false false=fun _=>false:=by funext k;simp[mkS]
theorem fin4c:∀ i:Fin 4,i=0\/i=1\/i=2\/i=3:=by decide
theorem Lays.known {hp:Addr->Option AO} {D0:Addr} {F:FM} {lab:Addr->Option (Fin 4×Key)} (Ly:Lays hp D0 F lab) {b:Addr} {q:Fin 4×Key} (e:lab b=some q):∃ ao,hp b=some ao:=by
 obtain⟨i,p⟩:=q
 obtain this:=fin4c i
 rcases this with rfl | rfl | rfl | rfl
 ·refine elEA (Ly.kids b p e) fun kvs h uu=>?_;exact⟨_,h⟩
 ·refine elEEEA (Ly.node b p e) fun f r dd h uu=>?_;exact⟨_,h⟩
 ·refine elEA (Ly.fl b p e) fun m uu h=>?_;exact⟨_,h⟩
 ·refine elEA (Ly.rf b p e) fun m uu h=>?_;exact⟨_,h⟩
theorem Lays.isSome {hp:Addr->Option AO} {D0:Addr} {F:FM} {lab:Addr->Option (Fin 4×Key)} (Ly:Lays hp D0 F lab) {b:Addr} {i:Fin 4} {p:Key} (e:lab b=some (i,p)) (hp':p≠[]):(F p).isSome=true:=by
 obtain this:=fin4c i
 rcases this with rfl | rfl | rfl | rfl
 ·exact (Ly.kd b p e).resolve_left hp'
 ·refine elEEEAAAA (Ly.node b p e) fun uu uu uu uu uu uu uu h=>?_;exact h
 ·refine elEA (Ly.fl b p e) fun m h uu=>?_;rw[h];rfl
 ·refine elEA (Ly.rf b p e) fun m h uu=>?_;rw[h];rfl
theorem not_in_of_look {ns:List (Fin 4)} {kvs:List (Str×V)} {k:Fin 4} (hm:kvs.map (·.1)=ns.map nmS) (hn:look (nmS k) kvs=none):k ∉ ns:=by
 induction kvs generalizing ns with
 | nil=>cases ns with
  | nil=>simp
  | cons _ _=>simp at hm
 | cons kv r ih=>cases ns with
  | nil=>simp
  | cons n ns =>
   obtain⟨x,v⟩:=kv
   simp only[List.map_cons,List.cons.injEq] at hm
   unfold look at hn
   by_cases q:x=nmS k
   ·rw[if_pos q] at hn;cases hn
   ·rw[if_neg q] at hn
    intro h
    rcases List.mem_cons.mp h with rfl | h
    ·exact q hm.1
    ·exact ih hm.2 hn h
theorem look_none_notin {k:Str} {kvs:List (Str×V)} (hn:look k kvs=none):k ∉ kvs.map (·.1):=by
 induction kvs with
 | nil=>simp
 | cons kv r ih =>
  obtain⟨x,v⟩:=kv
  unfold look at hn
  by_cases q:x=k
  ·rw[if_pos q] at hn;cases hn
  ·rw[if_neg q] at hn
   simp only[List.map_cons,List.mem_cons,not_or]
   exact⟨fun e=>q e.symm,ih hn⟩
noncomputable def nd4 (D N F R:Addr) (i:Fin 4):Addr:=if i=0 then D else if i=1 then N else if i=2 then F else R
theorem Lays.add {hp:Addr->Option AO} {D0:Addr} {F:FM} {lab:Addr->Option (Fin 4×Key)} (Ly:Lays hp D0 F lab) {p:Key} {k:Fin 4} {a N Fs Rs Dd:Addr} {kvs:List (Str×V)} (ha:lab a=some (0,p)) (hkv:hp a=some (.dictS kvs)) (hF:F (p++[k])=none)
  {hp':Addr->Option AO} (hN:hp N=none) (hFs:hp Fs=none) (hRs:hp Rs=none) (hDd:hp Dd=none) (n1:N≠Fs) (n2:N≠Rs) (n3:N≠Dd) (n4:Fs≠Rs) (n5:Fs≠Dd) (n6:Rs≠Dd)
  (e1:hp' N=some (.dictS [(ofS "flags",.obj Fs),(ofS "recursive_flags",.obj Rs),(ofS "nested",.obj Dd)])) (e2:hp' Fs=some (.setI (fun _=>false) 0)) (e3:hp' Rs=some (.setI (fun _=>false) 0)) (e4:hp' Dd=some (.dictS []))
  (e5:hp' a=some (.dictS (put (nmS k) (.obj N) kvs))) (e6:∀ b,b≠N->b≠Fs->b≠Rs->b≠Dd->b≠a->hp' b=hp b) :
  ∃ lab',Lays hp' D0 (fun q=>if q=p++[k] then some mk0 else F q) lab'/\lab' Dd=some (0,p++[k])/\lab' N=some (1,p++[k])/\lab' a=some (0,p):=by
 let lab':Addr->Option (Fin 4×Key):=fun b=>if b=N then some (1,p++[k]) else if b=Fs then some (2,p++[k]) else if b=Rs then some (3,p++[k]) else if b=Dd then some (0,p++[k]) else lab b
 let F1:FM:=fun q=>if q=p++[k] then some mk0 else F q
 refine (?_:∃ lab',Lays hp' D0 F1 lab'/\_)
 have old:∀ {b q},lab b=some q->b≠N/\b≠Fs/\b≠Rs/\b≠Dd:=fun {b q} e=>by
  refine elE (Ly.known e) fun ao h=>?_
  refine ⟨?_,?_,?_,?_⟩<;>rintro rfl
  ·rw[hN] at h;cases h
  ·rw[hFs] at h;cases h
  ·rw[hRs] at h;cases h
  ·rw[hDd] at h;cases h
 have lo:∀ {b q},lab b=some q->lab' b=some q:=fun {b q} e=>by
  refine elAAA (old e) fun h1 h2 h3 h4=>?_
  simp only[lab',if_neg h1,if_neg h2,if_neg h3,if_neg h4];exact e
 have lN:lab' N=some (1,p++[k]):=if_pos rfl
 have lF:lab' Fs=some (2,p++[k]):=by simp only[lab',if_neg (Ne.symm n1),if_pos]
 have lR:lab' Rs=some (3,p++[k]):=by simp only[lab',if_neg (Ne.symm n2),if_neg (Ne.symm n4),if_pos]
 have lD:lab' Dd=some (0,p++[k]):=by simp only[lab',if_neg (Ne.symm n3),if_neg (Ne.symm n5),if_neg (Ne.symm n6),if_pos]
 have inv:∀ {b i q},lab' b=some (i,q)->(b=nd4 Dd N Fs Rs i/\q=p++[k])\/lab b=some (i,q):=fun {b i q} e=>by
  simp only[lab'] at e
  split at e
  ·rename_i h;cases e;exact .inl ⟨h,rfl⟩
  ·split at e
   ·rename_i h;cases e;exact .inl ⟨h,rfl⟩
   ·split at e
    ·rename_i h;cases e;exact .inl ⟨h,rfl⟩
    ·split at e
     ·rename_i h;cases e;exact .inl ⟨h,rfl⟩
     ·exact .inr e
 have F1o:∀ {q},q≠p++[k]->F1 q=F q:=fun h=>if_neg h
 have F1n:F1 (p++[k])=some mk0:=if_pos rfl
 have nF:∀ {b i q},lab b=some (i,q)->q≠p++[k]:=fun {b i q} e h=>by
  have:=Ly.isSome e (by rw[h];simp)
  rw[h,hF] at this;cases this
 have keep:∀ {b q},lab b=some q->b≠a->hp' b=hp b:=fun {b q} e h=>by
  refine elAAA (old e) fun h1 h2 h3 h4=>?_
  exact e6 b h1 h2 h3 h4 h
 refine ⟨lab',⟨lo Ly.root,fun b q e=>?_,fun b q e=>?_,fun b q e=>?_,fun b q e=>?_,fun q n e hq=>?_,fun b b' q q1 q2=>?_,fun b q e=>?_⟩,lD,lN,lo ha⟩
 ·rcases inv e with ⟨rfl,rfl⟩ | h
  ·refine ⟨[],e4,⟨[],List.nodup_nil,rfl⟩,fun n=>?_⟩
   obtain this:F1 (p++[k]++[n])=none:=by
    rw[F1o (fun h=>by obtain this:=congrArg List.length h;simp at this)]
    exact closed_ext Ly.closed [n] (p++[k]) (by simp) hF
   rw[this];rfl
  ·by_cases hb:b=a
   ·subst hb
    rw[ha] at h;cases h
    refine elEAA (Ly.kids b p ha) fun kvs' h1 hn2 h3=>?_
    refine elEA hn2 fun ns hn hm=>?_
    try clear hn2
    rw[hkv] at h1;cases h1
    obtain hk:=h3 k
    simp only[hF] at hk
    refine ⟨_,e5,⟨ns++[k],?_,?_⟩,fun n=>?_⟩
    ·rw[List.nodup_append]
     refine ⟨hn,by simp,fun x hx y hy=>?_⟩
     simp only[List.mem_singleton] at hy
     subst hy
     rintro rfl
     exact not_in_of_look hm hk hx
    ·simp only[put_new (look_none_notin hk),List.map_append,hm,List.map_append];rfl
    ·rw[look_put]
     by_cases hnk:n=k
     ·subst hnk
      rw[F1n,if_pos rfl]
      exact⟨N,rfl,lN⟩
     ·rw[F1o (fun h=>hnk (by simpa using h)),if_neg (nmS_ne hnk)]
      obtain this:=h3 n
      cases hFn:F (p++[n]) with
      | none=>simp only[hFn] at this;exact this
      | some m =>
       simp only[hFn] at this
       refine elE this fun b' zz177=>?_;obtain q1:=zz177.1;obtain q2:=zz177.2
       try clear this
       exact⟨b',q1,lo q2⟩
   ·refine elEAA (Ly.kids b q h) fun kvs' h1 h2 h3=>?_
    refine ⟨kvs',(keep h hb).trans h1,h2,fun n=>?_⟩
    obtain hne:q++[n]≠p++[k]:=fun z=>hb (Ly.inj b a (0,p) (by
     obtain h4:=congrArg List.dropLast z
     obtain this:q=p:=by simpa using h4
     rw[<- this];exact h) ha)
    rw[F1o hne]
    obtain this:=h3 n
    cases hFn:F (q++[n]) with
    | none=>simp only[hFn] at this;exact this
    | some m =>
     simp only[hFn] at this
     refine elE this fun b' zz192=>?_;obtain q1:=zz192.1;obtain q2:=zz192.2
     try clear this
     exact⟨b',q1,lo q2⟩
 ·rcases inv e with ⟨rfl,rfl⟩ | h
  ·exact⟨Fs,Rs,Dd,e1,lF,lR,lD,by rw[F1n];rfl⟩
  ·refine elEEE (Ly.node b q h) fun f r dd zz201=>?_;obtain h1:=zz201.1;obtain h2:=zz201.2.1;obtain h3:=zz201.2.2.1;obtain h4:=zz201.2.2.2.1;obtain h5:=zz201.2.2.2.2
   exact⟨f,r,dd,(keep h (fun z=>by rw[z,ha] at h;cases h)).trans h1,lo h2,lo h3,lo h4,by rw[F1o (nF h)];exact h5⟩
 ·rcases inv e with ⟨rfl,rfl⟩ | h
  ·refine ⟨mk0,F1n,e2.trans ?_⟩
   delta Mk.f mk0;rw[mkS0];rfl
  ·refine elEA (Ly.fl b q h) fun m h1 h2=>?_
   exact⟨m,by rw[F1o (nF h)];exact h1,(keep h (fun z=>by rw[z,ha] at h;cases h)).trans h2⟩
 ·rcases inv e with ⟨rfl,rfl⟩ | h
  ·refine ⟨mk0,F1n,e3.trans ?_⟩
   delta Mk.r mk0;rw[mkS0];rfl
  ·refine elEA (Ly.rf b q h) fun m h1 h2=>?_
   exact⟨m,by rw[F1o (nF h)];exact h1,(keep h (fun z=>by rw[z,ha] at h;cases h)).trans h2⟩
 ·show (F1 q).isSome=true
  by_cases z:q=p++[k]
  ·rw[z,F1n];rfl
  ·rw[F1o z]
   by_cases z2:q++[n]=p++[k]
   ·have:q=p:=by simpa using congrArg List.dropLast z2
    subst this
    exact (Ly.kd a q ha).resolve_left hq
   ·have e':(F1 (q++[n])).isSome=true:=e
    rw[F1o z2] at e'
    exact Ly.closed q n e' hq
 ·obtain⟨i,q⟩:=q
  exact (inv q1).elim (fun h=>(inv q2).elim (fun h'=>h.1.trans h'.1.symm) fun h'=>absurd h.2 (nF h')) fun h=>(inv q2).elim (fun h'=>absurd h'.2 (nF h)) fun h'=>Ly.inj _ _ _ h h'
 ·show q=[]\/(F1 q).isSome=true
  rcases inv e with ⟨_,h⟩ | h
  ·right;rw[h,F1n];rfl
  ·rw[F1o (nF h)];exact Ly.kd b q h
theorem Lays.mark {hp hp':Addr->Option AO} {D0:Addr} {F:FM} {lab:Addr->Option (Fin 4×Key)} (Ly:Lays hp D0 F lab) {p:Key} {m':Mk} (hF:(F p).isSome=true)
  (hf:∀ b,lab b=some (2,p)->hp' b=some (.setI m'.f (mkN m'.f0 m'.f1))) (hr:∀ b,lab b=some (3,p)->hp' b=some (.setI m'.r (mkN m'.r0 m'.r1)))
  (keep:∀ b q,lab b=some q->q≠(2,p)->q≠(3,p)->hp' b=hp b):Lays hp' D0 (fun q=>if q=p then some m' else F q) lab:=by
 let F1:FM:=fun q=>if q=p then some m' else F q
 refine (?_:Lays hp' D0 F1 lab)
 have sm:∀ q,(F1 q).isSome=(F q).isSome:=fun q=>by
  refine (?_:(if q=p then some m' else F q).isSome=_)
  by_cases h:q=p
  ·rw[if_pos h,h,hF];rfl
  ·rw[if_neg h]
 refine ⟨Ly.root,fun b q e=>?_,fun b q e=>?_,fun b q e=>?_,fun b q e=>?_,fun q n e hq=>?_,Ly.inj,fun b q e=>?_⟩
 ·refine elEAA (Ly.kids b q e) fun kvs h1 h2 h3=>?_
  refine ⟨kvs,(keep b _ e (by simp) (by simp)).trans h1,h2,fun n=>?_⟩
  obtain this:=h3 n
  obtain s:=sm (q++[n])
  cases h4:F (q++[n]) with
  | none =>
   rw[h4] at this s
   cases h5:F1 (q++[n]) with
   | none=>exact this
   | some _=>rw[h5] at s;cases s
  | some m =>
   rw[h4] at this s
   cases h5:F1 (q++[n]) with
   | none=>rw[h5] at s;cases s
   | some _=>exact this
 ·refine elEEE (Ly.node b q e) fun f r dd zz273=>?_;obtain h1:=zz273.1;obtain h2:=zz273.2.1;obtain h3:=zz273.2.2.1;obtain h4:=zz273.2.2.2.1;obtain h5:=zz273.2.2.2.2
  exact⟨f,r,dd,(keep b _ e (by simp) (by simp)).trans h1,h2,h3,h4,(sm q).trans h5⟩
 ·by_cases hq:q=p
  ·subst hq;exact⟨m',if_pos rfl,hf b e⟩
  ·refine elEA (Ly.fl b q e) fun m h1 h2=>?_
   exact⟨m,(if_neg hq).trans h1,(keep b _ e (by simp[hq]) (by simp)).trans h2⟩
 ·by_cases hq:q=p
  ·subst hq;exact⟨m',if_pos rfl,hr b e⟩
  ·refine elEA (Ly.rf b q e) fun m h1 h2=>?_
   exact⟨m,(if_neg hq).trans h1,(keep b _ e (by simp) (by simp[hq])).trans h2⟩
 ·rw[sm] at e ⊢;exact Ly.closed q n e hq
 ·rw[sm];exact Ly.kd b q e
noncomputable def flI (e:Bool):Int:=if e=true then 1 else 0
noncomputable def addMk (m:Mk) (e rc:Bool):Mk:=match rc,e with
 | true,true=>{ m with r1:=true }
 | true,false=>{ m with r0:=true }
 | false,true=>{ m with f1:=true }
 | false,false=>{ m with f0:=true }
theorem mkS_add (b0 b1 e:Bool):(fun k=>mkS b0 b1 k||decide (k=flI e))=mkS (b0 || !e) (b1||e):=by
 funext k
 delta mkS flI
 by_cases h0:k=0
 ·subst h0;cases b0<;>cases b1<;>cases e<;>rfl
 ·by_cases h1:k=1
  ·subst h1;cases b0<;>cases b1<;>cases e<;>rfl
  ·cases e<;>simp[h0,h1]
theorem mkN_add (b0 b1 e:Bool):(if mkS b0 b1 (flI e)=true then mkN b0 b1 else mkN b0 b1+1)=mkN (b0 || !e) (b1||e):=by cases b0<;>cases b1<;>cases e<;>rfl
theorem mkN_le (b0 b1:Bool):mkN b0 b1<=2:=by cases b0<;>cases b1<;>decide
noncomputable def ensF (F:FM) (pre:Key):FM:=fun p=>if p≠[]/\p.isPrefixOf pre=true then some ((F p).getD mk0) else F p
noncomputable def setF (F:FM) (key:Key) (e rc:Bool):FM:=fun p=>if p=key then some (addMk ((F key).getD mk0) e rc) else ensF F key p
theorem ensF_nil (F:FM):ensF F []=F:=by
 funext p
 unfold ensF
 rw[if_neg]
 intro zr0
 obtain h1:=zr0.1;obtain h2:=zr0.2
 try clear zr0
 rw[List.isPrefixOf_iff_prefix] at h2
 exact h1 (List.prefix_nil.mp h2)
theorem ensF_snoc (F:FM) (pre:Key) (k:Fin 4):ensF F (pre++[k])=fun q=>if q=pre++[k] then some ((F q).getD mk0) else ensF F pre q:=by
 funext q
 unfold ensF
 by_cases h:q=pre++[k]
 ·rw[if_pos h,if_pos ⟨by rw[h];simp,by simp only[h];simp⟩]
 ·rw[if_neg h]
  have:q.isPrefixOf (pre++[k])=true ↔ q.isPrefixOf pre=true:=by
   simp only[List.isPrefixOf_iff_prefix]
   rw[List.prefix_concat_iff]
   exact⟨fun z=>z.resolve_left h,.inr⟩
  simp only[this]
theorem ensF_out (F:FM) (pre:Key) (k:Fin 4):ensF F pre (pre++[k])=F (pre++[k]):=by
 unfold ensF
 rw[if_neg]
 intro zr0
 obtain h:=zr0.2
 try clear zr0
 simp only[List.isPrefixOf_iff_prefix] at h
 obtain this:=h.length_le
 simp at this
 exact (Y48 this).elim
end
section
variable {d:Wd} {c:Cx} {σ:St}
theorem bind3k {fd:FuncData} {a b e z:V} {x y w n:Str} (h:∀ u v w' z':Value,bindArgs fd ⟨[u,v,w'],[(n,z')]⟩=pure [(x,u),(y,v),(w,w'),(n,z')]):BindV d c fd [a,b,e] [(n,z)] [(x,a),(y,b),(w,e),(n,z)] σ:=fun g s xs ys r rv rk Q E hQ=>by
 refine elEEAA rv.c fun u us e1 r1 rv=>elEEAA rv.c fun v vs e2 r2 rv=>elEEAA rv.c fun w' ws e3 r3 rv=>elEEAA rk.c fun z' zs e4 r4 rk=>?_
 rw[show xs=[u,v,w'] by rw[e1,e2,e3,rv.n],show ys=[z'] by rw[e4,rk.n]]
 show wpAny _ _ (bindArgs fd ⟨[u,v,w'],[(n,z')]⟩) Q E s
 rw[h]
 exact wpAny_pure (hQ g s _ r (Kp.refl ..) (.cons r1 (.cons r2 (.cons r3 (.cons r4 .nil)))))
theorem S_loc {x:Str} {v:V} {l l':List (Str×V)} {hp:Addr->Option AO} {K:Unit->St->Prop} (hl:c.env.kindOf x=some .local) (e:put x v l=l') (h:K () ⟨lk l',hp⟩):Ev1 d c REq v (storeName c.env x) ⟨lk l,hp⟩ K :=
 storeL (by rw[set_lk,e];exact h) hl
theorem Lays.made {hp:Addr->Option AO} {D0 x:Addr} {F:FM} {lab:Addr->Option (Fin 4×Key)} (Ly:Lays hp D0 F lab) {p:Key} {k:Fin 4} {a N Fs Rs Dd:Addr} {kvs:List (Str×V)} {C:Addr} {fs:List (Str×V)} (hx:hp x=some (.inst C fs)) (ha:lab a=some (0,p)) (hkv:hp a=some (.dictS kvs)) (hF:F (p++[k])=none)
  (hN:hp N=none) (hFs:updH hp N (.dictS []) Fs=none) (hRs:updH (updH hp N (.dictS [])) Fs (.setI (fun _=>false) 0) Rs=none) (hDd:updH (updH (updH hp N (.dictS [])) Fs (.setI (fun _=>false) 0)) Rs (.setI (fun _=>false) 0) Dd=none) :
  updH (updH (updH (updH hp N (.dictS [])) Fs (.setI (fun _=>false) 0)) Rs (.setI (fun _=>false) 0)) Dd (.dictS []) N=some (.dictS []) /\
  updH (updH (updH (updH (updH hp N (.dictS [])) Fs (.setI (fun _=>false) 0)) Rs (.setI (fun _=>false) 0)) Dd (.dictS [])) N (.dictS [(ofS "flags",.obj Fs),(ofS "recursive_flags",.obj Rs),(ofS "nested",.obj Dd)]) a=some (.dictS kvs) /\
  ∃ hp2,hp2=updH (updH (updH (updH (updH (updH hp N (.dictS [])) Fs (.setI (fun _=>false) 0)) Rs (.setI (fun _=>false) 0)) Dd (.dictS [])) N (.dictS [(ofS "flags",.obj Fs),(ofS "recursive_flags",.obj Rs),(ofS "nested",.obj Dd)])) a (.dictS (put (nmS k) (.obj N) kvs)) /\
   KeepF hp hp2/\hp2 x=hp x/\hp2 a=some (.dictS (put (nmS k) (.obj N) kvs))/\hp2 N=some (.dictS [(ofS "flags",.obj Fs),(ofS "recursive_flags",.obj Rs),(ofS "nested",.obj Dd)]) /\
   ∃ lab',Lays hp2 D0 (fun q=>if q=p++[k] then some mk0 else F q) lab'/\lab' Dd=some (0,p++[k])/\lab' N=some (1,p++[k])/\lab' a=some (0,p):=by
 refine elA (updH_none hFs) fun n1 hFs'=>?_
 refine elA (updH_none hRs) fun n4 hRs1=>?_
 refine elA (updH_none hRs1) fun n2 hRs'=>?_
 refine elA (updH_none hDd) fun n6 hDd1=>?_
 refine elA (updH_none hDd1) fun n5 hDd2=>?_
 refine elA (updH_none hDd2) fun n3 hDd'=>?_
 have ne:∀ {b z ao},hp b=none->hp z=some ao->z≠b:=fun h h' e=>by rw[e,h] at h';cases h'
 have a1:=ne hN hkv;have a2:=ne hFs' hkv;have a3:=ne hRs' hkv;have a4:=ne hDd' hkv
 have hxa:x≠a:=fun e=>clA hkv hx e
 refine ⟨?_,?_,_,rfl,?_,?_,?_,?_,?_⟩
 ·rw[updH_ne (Ne.symm n3),updH_ne (Ne.symm n2),updH_ne (Ne.symm n1),updH_at]
 ·rw[updH_ne a1,updH_ne a4,updH_ne a3,updH_ne a2,updH_ne a1];exact hkv
 ·intro b ao e h1 h2
  have hba:b≠a:=fun q=>by rw[q,hkv] at e;cases e;exact h1 _ rfl
  rw[updH_ne hba,updH_ne (ne hN e),updH_ne (ne hDd' e),updH_ne (ne hRs' e),updH_ne (ne hFs' e),updH_ne (ne hN e)];exact e
 ·rw[updH_ne hxa,updH_ne (ne hN hx),updH_ne (ne hDd' hx),updH_ne (ne hRs' hx),updH_ne (ne hFs' hx),updH_ne (ne hN hx)]
 ·exact updH_at
 ·rw[updH_ne (Ne.symm a1),updH_at]
 ·refine Ly.add ha hkv hF hN hFs' hRs' hDd' (Ne.symm n1) (Ne.symm n2) (Ne.symm n3) (Ne.symm n4) (Ne.symm n5) (Ne.symm n6) ?_ ?_ ?_ ?_ updH_at fun b h1 h2 h3 h4 h5=>?_
  ·rw[updH_ne (Ne.symm a1),updH_at]
  ·rw[updH_ne (Ne.symm a2),updH_ne n1,updH_ne (Ne.symm n5),updH_ne (Ne.symm n4),updH_at]
  ·rw[updH_ne (Ne.symm a3),updH_ne n2,updH_ne (Ne.symm n6),updH_at]
  ·rw[updH_ne (Ne.symm a4),updH_ne n3,updH_at]
  ·rw[updH_ne h5,updH_ne h1,updH_ne h4,updH_ne h3,updH_ne h2,updH_ne h1]
theorem KeepF.trans {a b e:Addr->Option AO} (h:KeepF a b) (k:KeepF b e):KeepF a e:=fun x ao q h1 h2=>k x ao (h x ao q h1 h2) h1 h2
theorem Lays.markF {hp:Addr->Option AO} {D0:Addr} {G:FM} {lab:Addr->Option (Fin 4×Key)} (Ly:Lays hp D0 G lab) {p:Key} {fa:Addr} {m:Mk} (lf:lab fa=some (2,p)) (h1:G p=some m) (h2:hp fa=some (.setI m.f (mkN m.f0 m.f1))) (e:Bool) :
  Lays (updH hp fa (.setI (fun k'=>m.f k'||decide (k'=flI e)) (if m.f (flI e)=true then mkN m.f0 m.f1 else mkN m.f0 m.f1+1))) D0 (fun q=>if q=p then some (addMk m e false) else G q) lab:=by
 refine Ly.mark (by rw[h1];rfl) (fun b lb=>?_) (fun b lb=>?_) fun b q lb q1 q2=>updH_ne fun z=>?_
 ·cases Ly.inj _ _ _ lb lf;rw[updH_at];unfold Mk.f;rw[mkS_add,mkN_add];cases e<;>simp[addMk]
 ·refine elEA (Ly.rf b p lb) fun m2 g1 g2=>?_;rw[h1] at g1;cases g1;rw[updH_ne (fun z=>by rw[z,lf] at lb;cases lb),g2];cases e<;>rfl
 ·rw[z,lf] at lb;cases lb;exact absurd rfl q1
theorem Lays.markR {hp:Addr->Option AO} {D0:Addr} {G:FM} {lab:Addr->Option (Fin 4×Key)} (Ly:Lays hp D0 G lab) {p:Key} {fa:Addr} {m:Mk} (lf:lab fa=some (3,p)) (h1:G p=some m) (h2:hp fa=some (.setI m.r (mkN m.r0 m.r1))) (e:Bool) :
  Lays (updH hp fa (.setI (fun k'=>m.r k'||decide (k'=flI e)) (if m.r (flI e)=true then mkN m.r0 m.r1 else mkN m.r0 m.r1+1))) D0 (fun q=>if q=p then some (addMk m e true) else G q) lab:=by
 refine Ly.mark (by rw[h1];rfl) (fun b lb=>?_) (fun b lb=>?_) fun b q lb q1 q2=>updH_ne fun z=>?_
 ·refine elEA (Ly.fl b p lb) fun m2 g1 g2=>?_;rw[h1] at g1;cases g1;rw[updH_ne (fun z=>by rw[z,lf] at lb;cases lb),g2];cases e<;>rfl
 ·cases Ly.inj _ _ _ lb lf;rw[updH_at];unfold Mk.r;rw[mkS_add,mkN_add];cases e<;>simp[addMk]
 ·rw[z,lf] at lb;cases lb;exact absurd rfl q2
theorem KeepF.set {hp:Addr->Option AO} {a:Addr} {S:Int->Bool} {n:Nat} {S':Int->Bool} {n':Nat} (h:hp a=some (.setI S n)):KeepF hp (updH hp a (.setI S' n')):=fun b ao e h1 h2=>by
 rw[updH_ne (fun z=>by rw[z,h] at e;cases e;exact h2 _ _ rfl)];exact e
noncomputable def fd63 (P:Params):FuncData:=fnData (o63 P)
theorem ok63 (d:Wd):FnOk d 63 (fd63 d.w.params) (kidS S2_6) [ofS "self",ofS "key",ofS "flag",ofS "recursive"]:=⟨⟨o63 d.w.params,by kernel_rfl!,by kernel_rfl!⟩,by kernel_rfl!,by kernel_rfl!,by kernel_rfl!,fun L=>by kernel_rfl!,by kernel_rfl!,by kernel_rfl!,by kernel_rfl!,by kernel_rfl!,by kernel_rfl!,by kernel_rfl!⟩
theorem set_spec {x P:Addr} {F:FM} {key:Key} {e rc:Bool} {K:V->St->Prop} (R:Rm c.A 1) (hz:key.length<=1000) (hk:key≠[]) (H:Flg σ.hp x F P) (h:∀ hp',Flg hp' x (setF F key e rc) P->KeepF σ.hp hp'->K .none ⟨σ.loc,hp'⟩) :
  CallV d c (.ref 63) [.obj x,kV key,.int (flI e)] [(ofS "recursive",.bool rc)] σ K:=by
 refine CallV_ok (bs:=[(ofS "self",.obj x),(ofS "key",kV key),(ofS "flag",.int (flI e)),(ofS "recursive",.bool rc)]) (ok63 d) R.room (bind3k fun u v w z=>rfl) (fun L=>?_)
 have R':Rm (cxOf c.A (fd63 d.w.params) L 63).A 0:=R.in
 refine elEEA H.lays fun D0 lab hx Ly=>?_
 refine elEE (key_last hk) fun init l hq2=>?_
 subst hq2
 refine WB_cons ?_
 walk_at "w"
 refine att_F hx (by walk_at "l") rfl ?_
 walk_at "w"
 refine WS_AssignSwap (I3:=ofS "key_parent") (I4:=ofS "key_stem") (u:=kV init) (v:=nV l) R'.handled ?_ (by kernel_rfl!) (by kernel_rfl!)
 refine W_Tuple ?_
 walk_at "w"
 refine sub_cutM hz ?_
 walk_at "w"
 refine sub_last ?_
 walk_at "w"
 refine ⟨by simp,by rw[List.dropLast_concat],?_⟩
 refine S_loc (by kernel_rfl!) (by walk_at "p") ?_
 refine S_loc (by kernel_rfl!) (by walk_at "p") ?_
 walk_at "w"
 refine WS_For (fun _ _ q=>q) R'.handled ?_
 walk_at "w"
 refine ⟨_,_,iter_tup,?_⟩
 refine (fun G:(∀ (ks pre:Key) (a:Addr) (hp:Addr->Option AO) (lab:Addr->Option (Fin 4×Key)),hp x=σ.hp x->KeepF σ.hp hp->Lays hp D0 (ensF F pre) lab->lab a=some (0,pre)->pre++ks=init ->
   ForRun d _ _ _ _ _ _ (ks.map nV) ⟨lk [(ofS "self",.obj x),(ofS "flag",.int (flI e)),(ofS "recursive",.bool rc),(ofS "key_stem",nV l),(ofS "cont",.obj a)],hp⟩)=>ForRun.sub (le_loc (l':=[(ofS "self",.obj x),(ofS "flag",.int (flI e)),(ofS "recursive",.bool rc),(ofS "key_stem",nV l),(ofS "cont",.obj D0)])
   ⟨by walk_at "l",by walk_at "l",by walk_at "l",by walk_at "l",by walk_at "l",trivial⟩) (G init [] D0 σ.hp lab rfl (KeepF.refl _) (by rw[ensF_nil];exact Ly) Ly.root rfl)) ?_
 clear Ly lab
 intro ks
 induction ks with
 | nil =>
  intro pre a hp lab hx' hK Ly ha hpre
  rw[List.append_nil] at hpre
  subst hpre
  show WB d _ _ _ _
  refine elEAA (Ly.kids a pre ha) fun kvs hkv hn2 hq=>?_
  refine elEA hn2 fun ns hns hm=>?_
  try clear hn2
  have hql:=hq l
  rw[ensF_out] at hql
  walk_at "w"
  refine cmp_notInS hkv ?_
  walk_at "w"
  refine ite_mid (fun σ'=>∃ hp2 lab2 kvs2 N,σ'=⟨lk [(ofS "self",.obj x),(ofS "flag",.int (flI e)),(ofS "recursive",.bool rc),(ofS "key_stem",nV l),(ofS "cont",.obj a)],hp2⟩/\hp2 x=σ.hp x/\KeepF σ.hp hp2/\Lays hp2 D0 (ensF F (pre++[l])) lab2/\hp2 a=some (.dictS kvs2)/\look (nmS l) kvs2=some (.obj N)/\lab2 N=some (1,pre++[l])) ?_ ?_ ?_
  ·intro uu zr1
   refine elEEEEAAA zr1 fun hp2 lab2 kvs2 N hq4 t1 t2 zz0=>?_
   refine elAAA zz0 fun t3 t4 t5 t6=>?_
   try clear zr1
   subst hq4
   refine elEEEAAAA (t3.node N _ t6) fun fa ra da hN lf lr ld hFN=>?_
   refine elEA (t3.fl _ _ lf) fun m hm1 hm2=>?_
   refine elEA (t3.rf _ _ lr) fun m' hm1' hm3=>?_
   rw[hm1] at hm1';cases hm1'
   have hFm:(F (pre++[l])).getD mk0=m:=by
    rw[ensF_snoc] at hm1
    simp only[if_true] at hm1
    exact Option.some.inj hm1
   have hFe:setF F (pre++[l]) e rc=fun q=>if q=pre++[l] then some (addMk m e rc) else ensF F (pre++[l]) q:=by
    funext q;unfold setF;rw[hFm]
   walk_at "w"
   refine sub_dictS t4 t5 ?_
   walk_at "w"
   cases rc with
   | true =>
    refine (if_pos rfl).mpr ?_
    walk_at "w"
    refine sub_dictS hN (by walk_at "l") ?_
    refine getM_setI hm3 PySem.F.slot_set_add PySem.F.type_set_add ?_
    walk_at "w"
    refine call_sadd hm3 (by have:=mkN_le m.r0 m.r1;exact Y94 this) ?_
    walk_at "w"
    have kf:=KeepF.set (S':=fun k'=>m.r k'||decide (k'=flI e)) (n':=if m.r (flI e)=true then mkN m.r0 m.r1 else mkN m.r0 m.r1+1) hm3
    exact h _ ⟨D0,lab2,kf _ _ (t1.trans hx) (by simp) (by simp),hFe ▸ t3.markR lr hm1 hm3 e⟩ (t2.trans kf)
   | false =>
    refine (if_neg Bool.false_ne_true).mpr ?_
    walk_at "w"
    refine sub_dictS hN (by walk_at "l") ?_
    refine getM_setI hm2 PySem.F.slot_set_add PySem.F.type_set_add ?_
    walk_at "w"
    refine call_sadd hm2 (by have:=mkN_le m.f0 m.f1;exact Y94 this) ?_
    walk_at "w"
    have kf:=KeepF.set (S':=fun k'=>m.f k'||decide (k'=flI e)) (n':=if m.f (flI e)=true then mkN m.f0 m.f1 else mkN m.f0 m.f1+1) hm2
    exact h _ ⟨D0,lab2,kf _ _ (t1.trans hx) (by simp) (by simp),hFe ▸ t3.markF lf hm1 hm2 e⟩ (t2.trans kf)
  ·intro hb
   have hF:F (pre++[l])=none:=by
    cases hF:F (pre++[l]) with
    | none=>rfl
    | some m =>
     rw[hF] at hql
     refine elEA hql fun b hb' uu=>?_
     try clear hql
     rw[hb'] at hb
     simp at hb
   rw[hF] at hql
   walk_at "w"
   refine W_Dict3 (L5:=ofS "flags") (L6:=ofS "recursive_flags") (L7:=ofS "nested") (by decide +kernel) (fun N hN=>?_)
   walk_at "w"
   refine call_set0 fun Fs hFs=>?_
   walk_at "w"
   refine call_set0 fun Rs hRs=>?_
   walk_at "w"
   refine W_DictS fun Dd hDd=>?_
   walk_at "w"
   refine elAAEA (Ly.made (hx'.trans hx) ha hkv ((ensF_out ..).trans hF) hN hFs hRs hDd) fun t1 t2 hp2 e2 zz0=>?_
   refine elAAAA zz0 fun t3 t4 t5 t6 zz1=>?_
   refine elEAAA zz1 fun lab' t7 t8 t9 t10=>?_
   refine ⟨_,_,_,rfl,t1,?_⟩
   walk_at "w"
   have hnl:kvs.length<=1000:=by
    have:=names_len hns hm
    exact Y105 this
   refine set_dictS t2 hnl ?_
   dsimp only [St.upd]
   rw[<- e2]
   clear e2 t1 t2 hN hFs hRs hDd
   walk_at "w"
   refine ⟨rfl,hp2,lab',_,N,rfl,t4.trans hx',hK.trans t3,?_,t5,by rw[look_put,if_pos rfl],t9⟩
   have:ensF F (pre++[l])=fun q=>if q=pre++[l] then some mk0 else ensF F pre q:=by
    rw[ensF_snoc]
    funext q
    by_cases hq':q=pre++[l]
    ·rw[if_pos hq',if_pos hq',hq',hF];rfl
    ·rw[if_neg hq',if_neg hq']
   rw[this];exact t7
  ·intro hb
   cases hF:F (pre++[l]) with
   | none=>rw[hF] at hql;rw[hql] at hb;exact absurd rfl hb
   | some m =>
    rw[hF] at hql
    refine elEA hql fun b hb' lb=>?_
    try clear hql
    walk_at "w"
    refine ⟨rfl,hp,lab,kvs,b,rfl,hx',hK,?_,hkv,hb',lb⟩
    have:ensF F (pre++[l])=ensF F pre:=by
     rw[ensF_snoc]
     funext q
     by_cases hq':q=pre++[l]
     ·rw[if_pos hq',hq',ensF_out,hF];rfl
     ·rw[if_neg hq']
    rw[this];exact Ly
 | cons k ks ih =>
  intro pre a hp lab hx' hK Ly ha hpre
  show Asg d _ _ _ _ _
  refine elEAA (Ly.kids a pre ha) fun kvs hkv hn2 hq=>?_
  refine elEA hn2 fun ns hns hm=>?_
  try clear hn2
  have hqk:=hq k
  rw[ensF_out] at hqk
  walk_at "w"
  refine cmp_notInS hkv ?_
  walk_at "w"
  cases hF:F (pre++[k]) with
  | none =>
   rw[hF] at hqk
   rw[hqk]
   try simp only[Option.isSome_none,Bool.not_false,if_true]
   walk_at "w"
   refine W_Dict3 (L5:=ofS "flags") (L6:=ofS "recursive_flags") (L7:=ofS "nested") (by decide +kernel) (fun N hN=>?_)
   walk_at "w"
   refine call_set0 fun Fs hFs=>?_
   walk_at "w"
   refine call_set0 fun Rs hRs=>?_
   walk_at "w"
   refine W_DictS fun Dd hDd=>?_
   walk_at "w"
   refine elAAEA (Ly.made (hx'.trans hx) ha hkv ((ensF_out ..).trans hF) hN hFs hRs hDd) fun t1 t2 hp2 e2 zz0=>?_
   refine elAAAA zz0 fun t3 t4 t5 t6 zz1=>?_
   refine elEAAA zz1 fun lab' t7 t8 t9 t10=>?_
   refine ⟨_,_,_,rfl,t1,?_⟩
   walk_at "w"
   have hnl:kvs.length<=1000:=by
    have:=names_len hns hm
    exact Y105 this
   refine set_dictS t2 hnl ?_
   dsimp only [St.upd]
   rw[<- e2]
   clear e2 t1 t2 hN hFs hRs hDd
   walk_at "w"
   refine sub_dictS t5 (by rw[look_put,if_pos rfl]) ?_
   walk_at "w"
   refine sub_dictS t6 (by walk_at "l") ?_
   walk_at "w"
   refine ⟨trivial,ForRun.sub (le_loc (l':=[(ofS "self",.obj x),(ofS "flag",.int (flI e)),(ofS "recursive",.bool rc),(ofS "key_stem",nV l),(ofS "cont",.obj Dd)]) ⟨by walk_at "l",by walk_at "l",by walk_at "l",by walk_at "l",by walk_at "l",trivial⟩)
    (ih _ _ hp2 lab' (t4.trans hx') (hK.trans t3) (by
     have:ensF F (pre++[k])=fun q=>if q=pre++[k] then some mk0 else ensF F pre q:=by
      rw[ensF_snoc]
      funext q
      by_cases hq':q=pre++[k]
      ·rw[if_pos hq',if_pos hq',hq',hF];rfl
      ·rw[if_neg hq',if_neg hq']
     rw[this];exact t7) t8 (by rw[<- hpre];simp))⟩
  | some m =>
   rw[hF] at hqk
   refine elEA hqk fun b hb lb=>?_
   try clear hqk
   refine elEEEAAAA (Ly.node b _ lb) fun fa ra da hN lf lr ld uu=>?_
   rw[hb]
   try simp only[Option.isSome_some,Bool.not_true,Bool.false_eq_true,if_false]
   walk_at "w"
   refine sub_dictS hkv hb ?_
   walk_at "w"
   refine sub_dictS hN (by walk_at "l") ?_
   walk_at "w"
   refine ⟨trivial,ForRun.sub (le_loc (l':=[(ofS "self",.obj x),(ofS "flag",.int (flI e)),(ofS "recursive",.bool rc),(ofS "key_stem",nV l),(ofS "cont",.obj da)]) ⟨by walk_at "l",by walk_at "l",by walk_at "l",by walk_at "l",by walk_at "l",trivial⟩)
    (ih _ _ hp lab hx' hK (by
     have:ensF F (pre++[k])=ensF F pre:=by
      rw[ensF_snoc]
      funext q
      by_cases hq':q=pre++[k]
      ·rw[if_pos hq',hq',ensF_out,hF];rfl
      ·rw[if_neg hq']
     rw[this];exact Ly) ld (by rw[<- hpre];simp))⟩
end
section
variable {d:Wd} {c:Cx} {σ:St}
noncomputable def fd42 (P:Params):FuncData:=fnData (o42 P)
theorem ok42 (d:Wd):FnOk d 42 (fd42 d.w.params) (kidS S2_3) [ofS "self",ofS "key",ofS "flag"]:=⟨⟨o42 d.w.params,by kernel_rfl!,by kernel_rfl!⟩,by kernel_rfl!,by kernel_rfl!,by kernel_rfl!,fun L=>by kernel_rfl!,by kernel_rfl!,by kernel_rfl!,by kernel_rfl!,by kernel_rfl!,by kernel_rfl!,by kernel_rfl!⟩
theorem addp_spec {x P:Addr} {F:FM} {ps:List (Key×Int)} {ep:Nat} {pl:List Nat} {p:Key×Int} {K:V->St->Prop} (R:Rm c.A 1) (H:Flg σ.hp x F P) (hP:σ.hp P=some (.setP (ps.map pV) ep pl)) (hz:ps.length<=3) (hk:p.1≠[]) (hn:p ∉ ps)
  (h:∀ (ps':List (Key×Int)) (ep':Nat) (pl':List Nat),ps'.Perm (p::ps)->K .none (σ.upd P (.setP (ps'.map pV) ep' pl'))):CallV d c (.ref 42) [.obj x,kV p.1,.int p.2] [] σ K:=by
 refine CallV_ok (bs:=[(ofS "self",.obj x),(ofS "key",kV p.1),(ofS "flag",.int p.2)]) (ok42 d) R.room (bind3 fun u v w=>rfl) (fun L=>?_)
 have R':Rm (cxOf c.A (fd42 d.w.params) L 42).A 0:=R.in
 refine elEEA H.lays fun D0 lab hx Ly=>?_
 refine WB_cons ?_
 walk_at "w"
 refine att_P hx (by walk_at "l") rfl ?_
 refine getM_setP hP PySem.F.slot_set_add PySem.F.type_set_add ?_
 walk_at "w"
 refine W_Tuple ?_
 walk_at "w"
 refine ⟨by simp,?_⟩
 walk_at "w"
 refine call_padd (p:=p) R' hP hz hk hn fun ps' ep' pl' hp'=>?_
 walk_at "w"
 exact h ps' ep' pl' hp'
theorem perm_map {α β:Type} {f:α->β} {xs ys:List β} (h:xs.Perm ys):∀ {l:List α},ys=l.map f->∃ l':List α,l'.Perm l/\xs=l'.map f:=by
 induction h with
 | nil=>intro l e;cases l with
  | nil=>exact⟨[],.nil,rfl⟩
  | cons a l=>cases e
 | cons x _ ih=>intro l e;cases l with
  | nil=>cases e
  | cons a l =>
   simp only[List.map_cons,List.cons.injEq] at e
   refine elEA (ih e.2) fun l' h1 h2=>?_
   exact⟨a::l',h1.cons a,by rw[List.map_cons,<- e.1,<- h2]⟩
 | swap x y l0=>intro l e;cases l with
  | nil=>cases e
  | cons a l=>cases l with
   | nil=>cases e
   | cons b l =>
    simp only[List.map_cons,List.cons.injEq] at e
    exact⟨b::a::l,.swap ..,by simp[e.1,e.2.1,e.2.2]⟩
 | trans _ _ ih1 ih2 =>
  intro l e
  refine elEA (ih2 e) fun l2 h1 h2=>?_
  refine elEA (ih1 h2) fun l1 h3 h4=>?_
  exact⟨l1,h3.trans h1,h4⟩
theorem Lays.congr {hp hp':Addr->Option AO} {D0:Addr} {F:FM} {lab:Addr->Option (Fin 4×Key)} (Ly:Lays hp D0 F lab) (k:∀ b q,lab b=some q->hp' b=hp b):Lays hp' D0 F lab :=
 ⟨Ly.root,fun a p e=>by rw[k a _ e];exact Ly.kids a p e,fun a p e=>by rw[k a _ e];exact Ly.node a p e,fun a p e=>by rw[k a _ e];exact Ly.fl a p e,fun a p e=>by rw[k a _ e];exact Ly.rf a p e,Ly.closed,Ly.inj,Ly.kd⟩
theorem Lays.kind {hp:Addr->Option AO} {D0:Addr} {F:FM} {lab:Addr->Option (Fin 4×Key)} (Ly:Lays hp D0 F lab) {b:Addr} {q:Fin 4×Key} (e:lab b=some q):(∃ kvs,hp b=some (.dictS kvs))\/∃ S n,hp b=some (.setI S n):=by
 obtain⟨i,p⟩:=q
 rcases fin4c i with rfl | rfl | rfl | rfl
 ·refine elEA (Ly.kids b p e) fun kvs h uu=>?_;exact .inl ⟨_,h⟩
 ·refine elEEEA (Ly.node b p e) fun f r dd h uu=>?_;exact .inl ⟨_,h⟩
 ·refine elEA (Ly.fl b p e) fun m uu h=>?_;exact .inr ⟨_,_,h⟩
 ·refine elEA (Ly.rf b p e) fun m uu h=>?_;exact .inr ⟨_,_,h⟩
theorem Flg.other {hp:Addr->Option AO} {x P b:Addr} {F:FM} {ao:AO} (H:Flg hp x F P) (hx:b≠x) (h1:∀ kvs,hp b≠some (.dictS kvs)) (h2:∀ S n,hp b≠some (.setI S n)):Flg (updH hp b ao) x F P:=by
 refine elEEA H.lays fun D0 lab e Ly=>?_
 refine ⟨D0,lab,(updH_ne (Ne.symm hx)).trans e,Ly.congr fun a q ea=>updH_ne fun z=>?_⟩
 subst z
 rcases Ly.kind ea with ⟨kvs,q⟩ | ⟨S,n,q⟩
 ·exact h1 _ q
 ·exact h2 _ _ q
theorem getM_F {x f:Addr} {fs:List (Str×V)} {name:Str} {K:Value->List V->St->Prop} (hp:σ.hp x=some (.inst 73 fs)) (hl:look name fs=none) (hf:findIn d.K (.ref 73) name=some (some (.ref f))) (ht:typeIn d.K (.ref f)=some (.type "function")) (h:K (.ref f) [.obj x] σ):GetM d c (.obj x) name σ K :=
 getM_inst hp hl (by kernel_rfl!) (by kernel_rfl!) hf ht h
noncomputable def KeepP (P:Addr) (hp hp':Addr->Option AO):Prop:=∀ b ao,b≠P->hp b=some ao->(∀ kvs,ao ≠ .dictS kvs)->(∀ S n,ao ≠ .setI S n)->hp' b=some ao
noncomputable def pnd (ps:List (Key×Bool)):List (Key×Int):=ps.map fun p=>(p.1,flI p.2)
noncomputable def finF (F:FM) (ps:List (Key×Bool)):FM:=ps.foldl (fun F p=>setF F p.1 p.2 false) F
noncomputable def fd49 (P:Params):FuncData:=fnData (o49 P)
theorem ok49 (d:Wd):FnOk d 49 (fd49 d.w.params) (kidS S2_4) [ofS "self"]:=⟨⟨o49 d.w.params,by kernel_rfl!,by kernel_rfl!⟩,by kernel_rfl!,by kernel_rfl!,by kernel_rfl!,fun L=>by kernel_rfl!,by kernel_rfl!,by kernel_rfl!,by kernel_rfl!,by kernel_rfl!,by kernel_rfl!,by kernel_rfl!⟩
theorem bind1 {fd:FuncData} {a:V} {x:Str} (h:∀ u:Value,bindArgs fd ⟨[u],[]⟩=pure [(x,u)]):BindV d c fd [a] [] [(x,a)] σ:=bind_plain (names:=[x]) rfl fun xs hx=>elE (len1 hx) fun u e=>by rw[e];exact h u
theorem fin_spec {x P:Addr} {F:FM} {ps:List (Key×Bool)} {ep:Nat} {pl:List Nat} {K:V->St->Prop} (R:Rm c.A 2) (H:Flg σ.hp x F P) (hP:σ.hp P=some (.setP ((pnd ps).map pV) ep pl)) (hk:∀ p∈ps,p.1≠[]/\p.1.length<=1000)
  (h:∀ hp' ps' ep',ps'.Perm ps->Flg hp' x (finF F ps') P->hp' P=some (.setP [] ep' [])->KeepP P σ.hp hp'->K .none ⟨σ.loc,hp'⟩):CallV d c (.ref 49) [.obj x] [] σ K:=by
 refine CallV_ok (bs:=[(ofS "self",.obj x)]) (ok49 d) R.room (bind1 fun u=>rfl) (fun L=>?_)
 have R':Rm (cxOf c.A (fd49 d.w.params) L 49).A 1:=R.in
 refine elEEA H.lays fun D0 lab hx Ly=>?_
 refine WB_cons ?_
 refine WS_ForG (fun _ _ q=>q) R'.handled ?_
 walk_at "w"
 refine att_P hx (by walk_at "l") rfl ?_
 refine ⟨_,_,iter_setP hP,fun xs hperm=>?_⟩
 refine elEA (perm_map (f:=fun p:Key×Bool=>pV (p.1,flI p.2)) (l:=ps) hperm (by unfold pnd;rw[List.map_map];rfl)) fun qs h1 hq2=>?_
 subst hq2
 refine (fun G:(∀ (rs:List (Key×Bool)) (F':FM) (hp':Addr->Option AO) (l:List (Str×V)),(∀ p∈rs,p.1≠[]/\p.1.length<=1000)->Flg hp' x F' P->hp' P=some (.setP ((pnd ps).map pV) ep pl)->KeepF σ.hp hp'->finF F' rs=finF F qs->LocIn (lk l) [(ofS "self",.obj x)] ->
   ForRun d _ _ _ _ _ _ (rs.map fun p:Key×Bool=>pV (p.1,flI p.2)) ⟨lk l,hp'⟩)=>G qs F σ.hp _ (fun p hp=>hk p (h1.mem_iff.mp hp)) H hP (KeepF.refl _) rfl ⟨by walk_at "l",trivial⟩) ?_
 intro rs
 induction rs with
 | nil =>
  intro F' hp' l _ H' hP' k e hl
  refine (fun G:WB d _ _ ⟨lk [(ofS "self",.obj x)],hp'⟩ _=>Ev.sub (le_loc hl) G) ?_
  refine elEEA H'.lays fun D1 lab1 hx1 uu=>?_
  walk_at "w"
  refine att_P hx1 (by walk_at "l") rfl ?_
  refine getM_setP hP' PySem.F.slot_set_clear PySem.F.type_set_clear ?_
  walk_at "w"
  refine call_pclear hP' fun ep'=>?_
  walk_at "w"
  have hxP:x≠P:=fun q=>clA hP' hx1 q
  refine h _ qs ep' h1 ?_ updH_at fun b ao hb q h1 h2=>(updH_ne hb).trans (k b ao q h1 h2)
  rw[<- e]
  exact H'.other (Ne.symm hxP) (fun _ q=>by rw[hP'] at q;cases q) (fun _ _ q=>by rw[hP'] at q;cases q)
 | cons p rs ih =>
  intro F' hp' l hr H' hP' k e hl
  refine (fun G:ForRun d _ _ _ _ _ _ _ ⟨lk [(ofS "self",.obj x)],hp'⟩=>ForRun.sub (le_loc hl) G) ?_
  show Asg d _ _ _ _ _
  refine A_pair (by kernel_rfl!) R'.handled ?_
  walk_at "w"
  refine elEEA (id H'.lays) fun D1 lab1 hx1 uu=>?_
  refine getM_F (name:=ofS "set") (f:=63) hx1 (by walk_at "m nolook") (by kernel_rfl!) (by kernel_rfl!) ?_
  refine WC_K (by kernel_rfl!) (by kernel_rfl!) ?_
  refine WA_kw (names:=[ofS "recursive"]) ?h1 ?h2 ?_ ?h3
  case h1=>rfl
  case h2=>rfl
  case h3=>rfl
  walk_at "w"
  refine WK_cons ?_
  walk_at "w"
  refine WK_nil ⟨rfl,?_⟩
  refine set_spec (R'.le (by decide)) (hr p (.head _)).2 (hr p (.head _)).1 H' fun hp2 H2 k2=>?_
  walk_at "w"
  refine ⟨k2 _ _ hP' (fun _=>AO.noConfusion) (fun _ _=>AO.noConfusion),?_⟩
  exact ih _ _ _ (fun q hq=>hr q (.tail _ hq)) H2 (k2 _ _ hP' (fun _=>AO.noConfusion) (fun _ _=>AO.noConfusion)) (k.trans k2) e ⟨by walk_at "l",trivial⟩
theorem set_F {x:Addr} {fs:List (Str×V)} {name:Str} {v:V} {K:Unit->St->Prop} (hp:σ.hp x=some (.inst 73 fs)) (hz:fs.length<=500) (ht:takerIn d.K 73 name=some none) (h:K () (σ.upd x (.inst 73 (put name v fs)))):SetA d c (.obj x) name v σ K :=
 set_inst hp (by kernel_rfl!) (by kernel_rfl!) ht (by kernel_rfl!) hz h
noncomputable def fd35 (P:Params):FuncData:=fnData (o35 P)
theorem ok35 (d:Wd):FnOk d 35 (fd35 d.w.params) (kidS S2_2) [ofS "self"]:=⟨⟨o35 d.w.params,by kernel_rfl!,by kernel_rfl!⟩,by kernel_rfl!,by kernel_rfl!,by kernel_rfl!,fun L=>by kernel_rfl!,by kernel_rfl!,by kernel_rfl!,by kernel_rfl!,by kernel_rfl!,by kernel_rfl!,by kernel_rfl!⟩
theorem flags_init {x:Addr} {K:V->St->Prop} (R:Rm c.A 1) (hx:σ.hp x=some (.inst 73 []))
  (h:∀ D P hp',D≠x->P≠x->P≠D->σ.hp D=none->σ.hp P=none->hp' x=some (.inst 73 [(ofS "_flags",.obj D),(ofS "_pending_flags",.obj P)])->hp' D=some (.dictS [])->hp' P=some (.setP [] 0 [])->(∀ b,b≠x->b≠D->b≠P->hp' b=σ.hp b)->K .none ⟨σ.loc,hp'⟩):CodeV d c (.ref 35) [.obj x] [] σ K:=by
 refine CodeV_ok (bs:=[(ofS "self",.obj x)]) (ok35 d) R.room (bind1 fun u=>rfl) (fun L=>?_)
 refine WB_cons ?_
 walk_at "w"
 refine W_DictS fun D hD=>?_
 have hDx:D≠x:=fun q=>by rw[q] at hD;rw[show σ.hp x=_ from hx] at hD;cases hD
 walk_at "w"
 refine set_F (fs:=[]) ((updH_ne (Ne.symm hDx)).trans hx) (by simp) (by kernel_rfl!) ?_
 walk_at "w"
 refine call_setP0 fun P hP=>?_
 refine elA (updH_none hP) fun h1 hP1=>?_
 refine elA (updH_none hP1) fun h2 hP2=>?_
 walk_at "w"
 refine set_F (fs:=[(ofS "_flags",.obj D)]) ((updH_ne (Ne.symm h1)).trans updH_at) (by simp) (by kernel_rfl!) ?_
 walk_at "w"
 exact h D P _ hDx h1 h2 hD hP2 updH_at ((updH_ne hDx).trans ((updH_ne (Ne.symm h2)).trans ((updH_ne hDx).trans updH_at))) ((updH_ne h1).trans updH_at)
  (fun b hx hD hP=>(updH_ne hx).trans ((updH_ne hP).trans ((updH_ne hx).trans (updH_ne hD))))
theorem call_Flags {K:V->St->Prop} (R:Rm c.A 2) (h:∀ x P hp',Flg hp' x (fun _=>none) P->hp' P=some (.setP [] 0 [])->(∀ b ao,σ.hp b=some ao->hp' b=some ao)->K (.obj x) ⟨σ.loc,hp'⟩):CallV d c (.ref 73) [] [] σ K :=
 call_inst false (fI:=35) R (by kernel_rfl!) (by kernel_rfl!) (by kernel_rfl!) fun A' x R' hx=>flags_init R' updH_at fun D P hp' h1 h2 h3 h4 h5 h6 h7 h8 h9=>⟨rfl,by
  refine elA (updH_none h4) fun uu h4'=>?_
  refine elA (updH_none h5) fun uu h5'=>?_
  refine h x P hp' ⟨D,fun b=>if b=D then some (0,[]) else none,h6,⟨if_pos rfl,fun a p e=>?_,fun a p e=>?_,fun a p e=>?_,fun a p e=>?_,(fun _ _ q=>nomatch q),fun a b q e1 e2=>?_,fun a p e=>?_⟩⟩ h8 fun b ao e=>?_
  ·split at e
   ·rename_i q;cases e;subst q;exact⟨[],h7,⟨[],.nil,rfl⟩,fun n=>rfl⟩
   ·cases e
  ·split at e<;>cases e
  ·split at e<;>cases e
  ·split at e<;>cases e
  ·split at e1
   ·split at e2
    ·rename_i q1 q2;exact q1.trans q2.symm
    ·cases e2
   ·cases e1
  ·split at e
   ·cases e;exact .inl rfl
   ·cases e
  ·have hbx:b≠x:=fun q=>clZ hx e q
   have hbD:b≠D:=fun q=>clZ h4' e q
   have hbP:b≠P:=fun q=>clZ h5' e q
   rw[h9 b hbx hbD hbP]
   exact (updH_ne hbx).trans e⟩
end
section
variable {d:Wd} {c:Cx} {σ:St}
theorem att_nd {x:Addr} {a b e:V} {expr:Bool} {K:V->St->Prop} (hp:σ.hp x=some (.slots 96 [some a,some b,some e])) (hv:handV a=true) (h:K a σ):Att d c (.obj x) (ofS "node") expr σ K :=
 att_slot (p:=97) (i:=0) hp rfl (by kernel_rfl!) (by kernel_rfl!) (by kernel_rfl!) (by kernel_rfl!) (by kernel_rfl!) (by kernel_rfl!) hv h
theorem att_np {x:Addr} {a b e:V} {expr:Bool} {K:V->St->Prop} (hp:σ.hp x=some (.slots 96 [some a,some b,some e])) (hv:handV b=true) (h:K b σ):Att d c (.obj x) (ofS "npredecessors") expr σ K :=
 att_slot (p:=98) (i:=1) hp rfl (by kernel_rfl!) (by kernel_rfl!) (by kernel_rfl!) (by kernel_rfl!) (by kernel_rfl!) (by kernel_rfl!) hv h
theorem att_su {x:Addr} {a b e:V} {expr:Bool} {K:V->St->Prop} (hp:σ.hp x=some (.slots 96 [some a,some b,some e])) (hv:handV e=true) (h:K e σ):Att d c (.obj x) (ofS "successors") expr σ K :=
 att_slot (p:=99) (i:=2) hp rfl (by kernel_rfl!) (by kernel_rfl!) (by kernel_rfl!) (by kernel_rfl!) (by kernel_rfl!) (by kernel_rfl!) hv h
theorem set_nd {x:Addr} {v:V} {K:Unit->St->Prop} (hp:σ.hp x=some (.slots 96 [])) (h:K () (σ.upd x (.slots 96 [some v]))):SetA d c (.obj x) (ofS "node") v σ K :=
 set_slotV (p:=97) (i:=0) hp (by kernel_rfl!) (by kernel_rfl!) (by kernel_rfl!) (by kernel_rfl!) (by kernel_rfl!) (by decide) h
theorem set_np0 {x:Addr} {a v:V} {K:Unit->St->Prop} (hp:σ.hp x=some (.slots 96 [some a])) (h:K () (σ.upd x (.slots 96 [some a,some v]))):SetA d c (.obj x) (ofS "npredecessors") v σ K :=
 set_slotV (p:=98) (i:=1) hp (by kernel_rfl!) (by kernel_rfl!) (by kernel_rfl!) (by kernel_rfl!) (by kernel_rfl!) (by decide) h
theorem set_su0 {x:Addr} {a b v:V} {K:Unit->St->Prop} (hp:σ.hp x=some (.slots 96 [some a,some b])) (h:K () (σ.upd x (.slots 96 [some a,some b,some v]))):SetA d c (.obj x) (ofS "successors") v σ K :=
 set_slotV (p:=99) (i:=2) hp (by kernel_rfl!) (by kernel_rfl!) (by kernel_rfl!) (by kernel_rfl!) (by kernel_rfl!) (by decide) h
theorem set_np {x:Addr} {a b e v:V} {K:Unit->St->Prop} (hp:σ.hp x=some (.slots 96 [some a,some b,some e])) (h:K () (σ.upd x (.slots 96 [some a,some v,some e]))):SetA d c (.obj x) (ofS "npredecessors") v σ K :=
 set_slotV (p:=98) (i:=1) hp (by kernel_rfl!) (by kernel_rfl!) (by kernel_rfl!) (by kernel_rfl!) (by kernel_rfl!) (by decide) h
noncomputable def fd92 (P:Params):FuncData:=fnData (o92 P)
theorem ok92 (d:Wd):FnOk d 92 (fd92 d.w.params) (kidS S6_1) [ofS "self",ofS "node"]:=⟨⟨o92 d.w.params,by kernel_rfl!,by kernel_rfl!⟩,by kernel_rfl!,by kernel_rfl!,by kernel_rfl!,fun L=>by kernel_rfl!,by kernel_rfl!,by kernel_rfl!,by kernel_rfl!,by kernel_rfl!,by kernel_rfl!,by kernel_rfl!⟩
theorem node_init {x:Addr} {n:Int} {K:V->St->Prop} (R:Rm c.A 1) (hx:σ.hp x=some (.slots 96 []))
  (h:∀ s hp',s≠x->σ.hp s=none->hp' x=some (.slots 96 [some (.int n),some (.int 0),some (.obj s)])->hp' s=some (.list [])->(∀ b,b≠x->b≠s->hp' b=σ.hp b)->K .none ⟨σ.loc,hp'⟩) :
  CodeV d c (.ref 92) [.obj x,.int n] [] σ K:=by
 refine CodeV_ok (bs:=[(ofS "self",.obj x),(ofS "node",.int n)]) (ok92 d) R.room (bind2 fun u v=>rfl) (fun L=>?_)
 refine WB_cons ?_
 walk_at "w"
 refine set_nd hx ?_
 walk_at "w"
 refine set_np0 (a:=.int n) updH_at ?_
 walk_at "w"
 refine W_ListM ?_
 walk_at "w"
 refine ⟨by simp,fun s hs=>?_⟩
 refine elA (updH_none hs) fun h1 hs'=>?_
 refine elA (updH_none hs') fun uu hs''=>?_
 walk_at "w"
 refine set_su0 (a:=.int n) (b:=.int 0) ((updH_ne (Ne.symm h1)).trans updH_at) ?_
 walk_at "w"
 exact h s _ h1 hs'' updH_at ((updH_ne h1).trans updH_at) fun b hb hs=>(updH_ne hb).trans ((updH_ne hs).trans ((updH_ne hb).trans (updH_ne hb)))
theorem call_node {n:Int} {K:V->St->Prop} (R:Rm c.A 2) (h:∀ x s hp',s≠x->σ.hp x=none->σ.hp s=none->hp' x=some (.slots 96 [some (.int n),some (.int 0),some (.obj s)])->hp' s=some (.list [])->(∀ b,b≠x->b≠s->hp' b=σ.hp b)->K (.obj x) ⟨σ.loc,hp'⟩):CallV d c (.ref 96) [.int n] [] σ K :=
 call_inst true (fI:=92) R (by kernel_rfl!) (by kernel_rfl!) (by kernel_rfl!) fun A' x R' hx=>node_init R' updH_at fun s hp' h1 h2 h3 h4 h5=>⟨rfl,by
  refine elA (updH_none h2) fun uu h2'=>?_
  exact h x s hp' h1 hx h2' h3 h4 fun b hb hs=>(h5 b hb hs).trans (updH_ne hb)⟩
end
section
variable {d:Wd} {c:Cx} {σ:St}
structure Srt where
 nds:List (Int×(Int×List Int))
 rdy:Option (List Int)
 po:Int
 fi:Int
structure SD where
 D:Addr
 rv:V
 ad:Int->Option (Addr×Addr)
noncomputable def SD.foot (t:SD) (x b:Addr):Prop:=b=x\/b=t.D\/t.rv = .obj b\/∃ n a s,t.ad n=some (a,s)/\(b=a\/b=s)
noncomputable def instS (t:SD) (S:Srt):AO:=.inst 193 [(ofS "_node2info",.obj t.D),(ofS "_ready_nodes",t.rv),(ofS "_npassedout",.int S.po),(ofS "_nfinished",.int S.fi)]
noncomputable def slotS (n k:Int) (s:Addr):AO:=.slots 96 [some (.int n),some (.int k),some (.obj s)]
structure SrtR (hp:Addr->Option AO) (x:Addr) (S:Srt) (t:SD):Prop where
 obj:hp x=some (instS t S)
 dict:∃ kvs ep,hp t.D=some (.dictI kvs ep)/\kvs.map (·.1)=S.nds.map (·.1)/\∀ n,look n kvs=(t.ad n).map fun p=>V.obj p.1
 none_:∀ n,t.ad n=none->look n S.nds=none
 node:∀ n a s,t.ad n=some (a,s)->∃ k sc,look n S.nds=some (k,sc)/\hp a=some (slotS n k s)/\hp s=some (.list (sc.map V.int))
 inj:∀ n m a a' s s',t.ad n=some (a,s)->t.ad m=some (a',s')->(a=a'\/s=s')->n=m
 rdyN:S.rdy=none->t.rv=V.none
 rdyS:∀ l,S.rdy=some l->∃ R,t.rv = .obj R/\hp R=some (.list (l.map V.int))/\∀ n a s,t.ad n=some (a,s)->s≠R
structure KeepS (x:Addr) (t t':SD) (hp hp':Addr->Option AO):Prop where
 old:∀ b ao,hp b=some ao->¬ t.foot x b->hp' b=some ao
 new:∀ b,t'.foot x b->t.foot x b\/hp b=none
theorem KeepS.refl {x:Addr} {t:SD} {hp:Addr->Option AO}:KeepS x t t hp hp:=⟨fun _ _ e _=>e,fun _ h=>.inl h⟩
theorem KeepS.trans {x:Addr} {t t' t'':SD} {hp hp' hp'':Addr->Option AO} (h:KeepS x t t' hp hp') (k:KeepS x t' t'' hp' hp''):KeepS x t t'' hp hp'':=by
 refine ⟨fun b ao e hf=>k.old b ao (h.old b ao e hf) fun q=>?_,fun b q=>?_⟩
 ·rcases h.new b q with z | z
  ·exact hf z
  ·rw[e] at z;cases z
 ·rcases k.new b q with z | z
  ·exact h.new b z
  ·by_cases hf:t.foot x b
   ·exact .inl hf
   ·refine .inr ?_
    cases e:hp b with
    | none=>rfl
    | some ao=>rw[h.old b ao e hf] at z;cases z
theorem KeepS.upd {x b:Addr} {t:SD} {hp:Addr->Option AO} {ao:AO} (h:t.foot x b):KeepS x t t hp (updH hp b ao) :=
 ⟨fun b' ao' e hf=>by rw[updH_ne (fun q=>hf (by rw[q];exact h))];exact e,fun _ h=>.inl h⟩
theorem foot_n {t:SD} {x a s:Addr} {n:Int} (e:t.ad n=some (a,s)):t.foot x a/\t.foot x s:=⟨.inr (.inr (.inr ⟨n,a,s,e,.inl rfl⟩)),.inr (.inr (.inr ⟨n,a,s,e,.inr rfl⟩))⟩
noncomputable def updN (S:Srt) (n:Int) (f:Int×List Int->Int×List Int):Srt:=match look n S.nds with
 | some v=>{ S with nds:=put n (f v) S.nds }
 | none=>S
noncomputable def ensN (S:Srt) (n:Int):Srt:=match look n S.nds with
 | some _=>S
 | none=>{ S with nds:=put n (0,[]) S.nds }
theorem put_keys {α:Type} {n:Int} {v w:α} {l:List (Int×α)} (h:look n l=some w):(put n v l).map (·.1)=l.map (·.1):=by
 induction l with
 | nil=>cases h
 | cons kv r ih =>
  obtain⟨k,u⟩:=kv
  unfold put
  unfold look at h
  split at h
  ·rename_i q;rw[if_pos q];rfl
  ·rename_i q;rw[if_neg q];simp only[List.map_cons];rw[ih h]
theorem look_none_map {α:Type} {n:Int} {l:List (Int×α)}:look n l=none ↔ n ∉ l.map (·.1):=by
 induction l with
 | nil=>simp[look]
 | cons kv r ih =>
  obtain⟨k,u⟩:=kv
  unfold look
  by_cases q:k=n
  ·rw[if_pos q];simp[q]
  ·rw[if_neg q,ih]
   simp only[List.map_cons,List.mem_cons,not_or]
   exact⟨fun h=>⟨fun e=>q e.symm,h⟩,fun h=>h.2⟩
theorem put_keys_new {α β:Type} {n:Int} {v:α} {w:β} {l:List (Int×α)} {m:List (Int×β)} (hm:l.map (·.1)=m.map (·.1)):(put n v l).map (·.1)=(put n w m).map (·.1):=by
 induction l generalizing m with
 | nil=>cases m with
  | nil=>rfl
  | cons _ _=>cases hm
 | cons kv r ih=>cases m with
  | nil=>cases hm
  | cons kw m =>
   simp only[List.map_cons,List.cons.injEq] at hm
   obtain⟨k,u⟩:=kv
   obtain⟨k',u'⟩:=kw
   have hk:k=k':=hm.1
   subst hk
   unfold put
   by_cases q:k=n
   ·rw[if_pos q,if_pos q];simp only[List.map_cons];rw[hm.2]
   ·rw[if_neg q,if_neg q];simp only[List.map_cons];rw[ih hm.2]
theorem SrtR.updA {hp:Addr->Option AO} {x a s:Addr} {S:Srt} {t:SD} {n k k':Int} {sc:List Int} (H:SrtR hp x S t) (e:t.ad n=some (a,s)) (hl:look n S.nds=some (k,sc)) :
  SrtR (updH hp a (slotS n k' s)) x { S with nds:=put n (k',sc) S.nds } t:=by
 refine elEEAA (H.node n a s e) fun k0 sc0 h1 h2 h3=>?_
 refine elEEAA H.dict fun kvs ep d1 d2 d3=>?_
 have ne:∀ {b ao},hp b=some ao->(∀ fs,ao ≠ .slots 96 fs)->b≠a:=fun eb h q=>by rw[q,h2] at eb;cases eb;exact h _ rfl
 refine ⟨(updH_ne (ne H.obj fun _=>AO.noConfusion)).trans H.obj,⟨kvs,ep,(updH_ne (ne d1 fun _=>AO.noConfusion)).trans d1,by rw[d2];exact (put_keys hl).symm,d3⟩,fun m em=>?_,fun m a' s' em=>?_,H.inj,H.rdyN,fun l el=>?_⟩
 ·have:=H.none_ m em
  show look m (put n _ S.nds)=none
  rw[look_put,if_neg (fun q=>by rw[q,e] at em;cases em)];exact this
 ·refine elEEAA (H.node m a' s' em) fun k1 sc1 q1 q2 q3=>?_
  by_cases q:m=n
  ·subst q
   rw[e] at em;cases em
   rw[hl] at q1;cases q1
   exact⟨k',sc,by rw[look_put,if_pos rfl],updH_at,(updH_ne (ne q3 fun _=>AO.noConfusion)).trans q3⟩
  ·exact⟨k1,sc1,by rw[look_put,if_neg q];exact q1,(updH_ne fun z=>q (H.inj m n a' a s' s em e (.inl z))).trans q2,(updH_ne (ne q3 fun _=>AO.noConfusion)).trans q3⟩
 ·refine elEAA (H.rdyS l el) fun R r1 r2 r3=>?_
  exact⟨R,r1,(updH_ne (ne r2 fun _=>AO.noConfusion)).trans r2,r3⟩
theorem SrtR.updS {hp:Addr->Option AO} {x a s:Addr} {S:Srt} {t:SD} {n k:Int} {sc sc':List Int} (H:SrtR hp x S t) (e:t.ad n=some (a,s)) (hl:look n S.nds=some (k,sc)) :
  SrtR (updH hp s (.list (sc'.map V.int))) x { S with nds:=put n (k,sc') S.nds } t:=by
 refine elEEAA (H.node n a s e) fun k0 sc0 h1 h2 h3=>?_
 refine elEEAA H.dict fun kvs ep d1 d2 d3=>?_
 have ne:∀ {b ao},hp b=some ao->(∀ fs,ao ≠ .list fs)->b≠s:=fun eb h q=>by rw[q,h3] at eb;cases eb;exact h _ rfl
 refine ⟨(updH_ne (ne H.obj fun _=>AO.noConfusion)).trans H.obj,⟨kvs,ep,(updH_ne (ne d1 fun _=>AO.noConfusion)).trans d1,by rw[d2];exact (put_keys hl).symm,d3⟩,fun m em=>?_,fun m a' s' em=>?_,H.inj,H.rdyN,fun l el=>?_⟩
 ·have:=H.none_ m em
  show look m (put n _ S.nds)=none
  rw[look_put,if_neg (fun q=>by rw[q,e] at em;cases em)];exact this
 ·refine elEEAA (H.node m a' s' em) fun k1 sc1 q1 q2 q3=>?_
  by_cases q:m=n
  ·subst q
   rw[e] at em;cases em
   rw[hl] at q1;cases q1
   exact⟨k,sc',by rw[look_put,if_pos rfl],(updH_ne (ne q2 fun _=>AO.noConfusion)).trans q2,updH_at⟩
  ·exact⟨k1,sc1,by rw[look_put,if_neg q];exact q1,(updH_ne (ne q2 fun _=>AO.noConfusion)).trans q2,(updH_ne fun z=>q (H.inj m n a' a s' s em e (.inr z))).trans q3⟩
 ·refine elEAA (H.rdyS l el) fun R r1 r2 r3=>?_
  exact⟨R,r1,(updH_ne fun z=>r3 n a s e z.symm).trans r2,r3⟩
noncomputable def SD.add (t:SD) (n:Int) (a s:Addr):SD:={ t with ad:=fun m=>if m=n then some (a,s) else t.ad m }
theorem SrtR.addN {hp hp':Addr->Option AO} {x a s:Addr} {S:Srt} {t:SD} {n:Int} {kvs:List (Int×V)} {ep ep':Nat} (H:SrtR hp x S t) (e:t.ad n=none) (ha:hp a=none) (hs:hp s=none) (has:s≠a) (hd:hp t.D=some (.dictI kvs ep))
  (h1:hp' a=some (slotS n 0 s)) (h2:hp' s=some (.list [])) (h3:hp' t.D=some (.dictI (put n (.obj a) kvs) ep')) (h4:∀ b,b≠a->b≠s->b≠t.D->hp' b=hp b) :
  SrtR hp' x (ensN S n) (t.add n a s)/\KeepS x t (t.add n a s) hp hp':=by
 have hn:=H.none_ n e
 have eS:ensN S n={ S with nds:=put n (0,[]) S.nds }:=by unfold ensN;rw[hn]
 rw[eS]
 refine elEEAA H.dict fun kvs' ep0 d1 d2 d3=>?_
 rw[hd] at d1;cases d1
 have na:∀ {b ao},hp b=some ao->b≠a:=fun eb q=>by rw[q,ha] at eb;cases eb
 have ns:∀ {b ao},hp b=some ao->b≠s:=fun eb q=>by rw[q,hs] at eb;cases eb
 have nD:∀ {b ao},hp b=some ao->(∀ k e,ao ≠ .dictI k e)->b≠t.D:=fun eb h q=>by rw[q,hd] at eb;cases eb;exact h _ _ rfl
 have keep:∀ {b ao},hp b=some ao->(∀ k e,ao ≠ .dictI k e)->hp' b=some ao:=fun eb h=>(h4 _ (na eb) (ns eb) (nD eb h)).trans eb
 refine ⟨⟨keep H.obj fun _ _=>AO.noConfusion,⟨_,_,h3,put_keys_new d2,fun m=>?_⟩,fun m em=>?_,fun m a' s' em=>?_,fun m m' a1 a2 s1 s2 e1 e2 q=>?_,H.rdyN,fun l el=>?_⟩,⟨fun b ao eb hf=>?_,fun b hb=>?_⟩⟩
 ·rw[look_put]
  show _=Option.map _ (if m=n then some (a,s) else t.ad m)
  by_cases q:m=n
  ·rw[if_pos q,if_pos q];rfl
  ·rw[if_neg q,if_neg q];exact d3 m
 ·have em':(if m=n then some (a,s) else t.ad m)=none:=em
  by_cases q:m=n
  ·rw[if_pos q] at em';cases em'
  ·rw[if_neg q] at em'
   show look m (put n _ S.nds)=none
   rw[look_put,if_neg q];exact H.none_ m em'
 ·have em':(if m=n then some (a,s) else t.ad m)=some (a',s'):=em
  by_cases q:m=n
  ·rw[if_pos q] at em';cases em'
   subst q
   exact⟨0,[],by rw[look_put,if_pos rfl],h1,h2⟩
  ·rw[if_neg q] at em'
   refine elEEAA (H.node m a' s' em') fun k1 sc1 q1 q2 q3=>?_
   exact⟨k1,sc1,by rw[look_put,if_neg q];exact q1,keep q2 fun _ _=>AO.noConfusion,keep q3 fun _ _=>AO.noConfusion⟩
 ·have e1':(if m=n then some (a,s) else t.ad m)=some (a1,s1):=e1
  have e2':(if m'=n then some (a,s) else t.ad m')=some (a2,s2):=e2
  by_cases q1:m=n<;>by_cases q2:m'=n
  ·rw[q1,q2]
  ·rw[if_pos q1] at e1';rw[if_neg q2] at e2';cases e1'
   refine elEEAA (H.node m' a2 s2 e2') fun uu uu uu z2 z3=>?_
   rcases q with q | q
   ·exact absurd q.symm (na z2)
   ·exact absurd q.symm (ns z3)
  ·rw[if_neg q1] at e1';rw[if_pos q2] at e2';cases e2'
   refine elEEAA (H.node m a1 s1 e1') fun uu uu uu z2 z3=>?_
   rcases q with q | q
   ·exact absurd q (na z2)
   ·exact absurd q (ns z3)
  ·rw[if_neg q1] at e1';rw[if_neg q2] at e2'
   exact H.inj m m' a1 a2 s1 s2 e1' e2' q
 ·refine elEAA (H.rdyS l el) fun R r1 r2 r3=>?_
  refine ⟨R,r1,keep r2 fun _ _=>AO.noConfusion,fun m a' s' em=>?_⟩
  have em':(if m=n then some (a,s) else t.ad m)=some (a',s'):=em
  by_cases q:m=n
  ·rw[if_pos q] at em';cases em';exact Ne.symm (ns r2)
  ·rw[if_neg q] at em';exact r3 m a' s' em'
 ·exact (h4 b (na eb) (ns eb) fun q=>hf (.inr (.inl q))).trans eb
 ·rcases hb with q | q | q | ⟨m,a',s',em,q⟩
  ·exact .inl (.inl q)
  ·exact .inl (.inr (.inl q))
  ·exact .inl (.inr (.inr (.inl q)))
  ·have em':(if m=n then some (a,s) else t.ad m)=some (a',s'):=em
   by_cases z:m=n
   ·rw[if_pos z] at em';cases em'
    rcases q with q | q
    ·exact .inr (q ▸ ha)
    ·exact .inr (q ▸ hs)
   ·rw[if_neg z] at em'
    exact .inl (.inr (.inr (.inr ⟨m,a',s',em',q⟩)))
end
section
variable {d:Wd} {c:Cx} {σ:St}
theorem att_n2i {x:Addr} {S:Srt} {t:SD} {expr:Bool} {K:V->St->Prop} (hp:σ.hp x=some (instS t S)) (h:K (.obj t.D) σ):Att d c (.obj x) (ofS "_node2info") expr σ K :=
 att_inst (d:=d) (attr:=none) hp (by walk_at "l") (by kernel_rfl!) (by kernel_rfl!) (by kernel_rfl!) (by kernel_rfl!) rfl h
theorem att_rdy {x:Addr} {S:Srt} {t:SD} {expr:Bool} {K:V->St->Prop} (hp:σ.hp x=some (instS t S)) (hv:handV t.rv=true) (h:K t.rv σ):Att d c (.obj x) (ofS "_ready_nodes") expr σ K :=
 att_inst (d:=d) (attr:=none) hp (by walk_at "l") (by kernel_rfl!) (by kernel_rfl!) (by kernel_rfl!) (by kernel_rfl!) hv h
theorem att_po {x:Addr} {S:Srt} {t:SD} {expr:Bool} {K:V->St->Prop} (hp:σ.hp x=some (instS t S)) (h:K (.int S.po) σ):Att d c (.obj x) (ofS "_npassedout") expr σ K :=
 att_inst (d:=d) (attr:=none) hp (by walk_at "l") (by kernel_rfl!) (by kernel_rfl!) (by kernel_rfl!) (by kernel_rfl!) rfl h
theorem att_fi {x:Addr} {S:Srt} {t:SD} {expr:Bool} {K:V->St->Prop} (hp:σ.hp x=some (instS t S)) (h:K (.int S.fi) σ):Att d c (.obj x) (ofS "_nfinished") expr σ K :=
 att_inst (d:=d) (attr:=none) hp (by walk_at "l") (by kernel_rfl!) (by kernel_rfl!) (by kernel_rfl!) (by kernel_rfl!) rfl h
theorem set_S {x:Addr} {fs:List (Str×V)} {name:Str} {v:V} {K:Unit->St->Prop} (hp:σ.hp x=some (.inst 193 fs)) (hz:fs.length<=500) (ht:takerIn d.K 193 name=some none) (h:K () (σ.upd x (.inst 193 (put name v fs)))):SetA d c (.obj x) name v σ K :=
 set_inst hp (by kernel_rfl!) (by kernel_rfl!) ht (by kernel_rfl!) hz h
theorem getM_S {x f:Addr} {S:Srt} {t:SD} {name:Str} {K:Value->List V->St->Prop} (hp:σ.hp x=some (instS t S)) (hl:look name [(ofS "_node2info",V.obj t.D),(ofS "_ready_nodes",t.rv),(ofS "_npassedout",.int S.po),(ofS "_nfinished",.int S.fi)]=none) (hf:findIn d.K (.ref 193) name=some (some (.ref f))) (ht:typeIn d.K (.ref f)=some (.type "function")) (h:K (.ref f) [.obj x] σ):GetM d c (.obj x) name σ K :=
 getM_inst hp hl (by kernel_rfl!) (by kernel_rfl!) hf ht h
noncomputable def fd136 (P:Params):FuncData:=fnData (o136 P)
theorem ok136 (d:Wd):FnOk d 136 (fd136 d.w.params) (kidS S8_1) [ofS "self",ofS "node"]:=⟨⟨o136 d.w.params,by kernel_rfl!,by kernel_rfl!⟩,by kernel_rfl!,by kernel_rfl!,by kernel_rfl!,fun L=>by kernel_rfl!,by kernel_rfl!,by kernel_rfl!,by kernel_rfl!,by kernel_rfl!,by kernel_rfl!,by kernel_rfl!⟩
theorem gni_spec {x:Addr} {n:Int} {S:Srt} {t:SD} {K:V->St->Prop} (R:Rm c.A 3) (H:SrtR σ.hp x S t) (hz:S.nds.length<=500)
  (h:∀ hp' t' a s,SrtR hp' x (ensN S n) t'->t'.ad n=some (a,s)->t'.D=t.D->t'.rv=t.rv->KeepS x t t' σ.hp hp'->K (.obj a) ⟨σ.loc,hp'⟩):CallV d c (.ref 136) [.obj x,.int n] [] σ K:=by
 refine CallV_ok (bs:=[(ofS "self",.obj x),(ofS "node",.int n)]) (ok136 d) R.room (bind2 fun u v=>rfl) (fun L=>?_)
 have R':Rm (cxOf c.A (fd136 d.w.params) L 136).A 2:=R.in
 refine elEEAA H.dict fun kvs ep d1 d2 d3=>?_
 have hlen:kvs.length=S.nds.length:=by have:=congrArg List.length d2;simpa using this
 refine WB_cons ?_
 walk_at "w"
 refine W_NamedExpr ?_
 walk_at "w"
 refine att_n2i H.obj ?_
 refine getM_dictI d1 PySem.F.slot_dict_get PySem.F.type_dict_get ?_
 walk_at "w"
 refine call_getI d1 ?_
 walk_at "w"
 cases e:t.ad n with
 | some p =>
  obtain⟨a,s⟩:=p
  rw[show look n kvs=some (.obj a) by rw[d3 n,e];rfl]
  refine cmp_isNone (b:=false) rfl ?_
  walk_at "w"
  try simp only[Bool.false_eq_true,if_false]
  walk_at "w"
  refine elEEAA (H.node n a s e) fun k sc q1 uu uu=>?_
  have eS:ensN S n=S:=by unfold ensN;rw[q1]
  exact h σ.hp t a s (by rw[eS];exact H) e rfl rfl KeepS.refl
 | none =>
  rw[show look n kvs=none by rw[d3 n,e];rfl]
  refine cmp_isNone (b:=true) rfl ?_
  walk_at "w"
  try simp only[if_true]
  walk_at "w"
  refine call_node R' fun a s hp' h1 h2 h3 h4 h5 h6=>?_
  have keep:∀ {b ao},σ.hp b=some ao->hp' b=some ao:=fun {b ao} eb=>(h6 b (fun q=>by rw[q] at eb;exact absurd (eb.symm.trans h2) (by simp)) (fun q=>by rw[q] at eb;exact absurd (eb.symm.trans h3) (by simp))).trans eb
  walk_at "w"
  refine att_n2i (S:=S) (t:=t) (keep H.obj) ?_
  walk_at "w"
  refine set_dictI (keep d1) (Y204 hz hlen) fun ep'=>?_
  walk_at "w"
  have hDa:t.D≠a:=fun q=>by rw[q] at d1;exact absurd (d1.symm.trans h2) (by simp)
  have hDs:t.D≠s:=fun q=>by rw[q] at d1;exact absurd (d1.symm.trans h3) (by simp)
  refine elA (SrtR.addN (hp':=updH hp' t.D (.dictI (put n (.obj a) kvs) ep')) H e h2 h3 h1 d1 ((updH_ne (Ne.symm hDa)).trans h4) ((updH_ne (Ne.symm hDs)).trans h5) updH_at fun b q1 q2 q3=>(updH_ne q3).trans (h6 b q1 q2)) fun A1 A2=>?_
  exact h _ (t.add n a s) a s A1 (if_pos rfl) rfl rfl A2
noncomputable def srt0:Srt:=⟨[],none,0,0⟩
theorem ok129 (d:Wd):FnOk d 129 (fd129 d.w.params) (kidS S8_0) [ofS "self",ofS "graph"]:=⟨⟨o129 d.w.params,by kernel_rfl!,by kernel_rfl!⟩,by kernel_rfl!,by kernel_rfl!,by kernel_rfl!,fun L=>by kernel_rfl!,by kernel_rfl!,by kernel_rfl!,by kernel_rfl!,by kernel_rfl!,by kernel_rfl!,by kernel_rfl!⟩
theorem sorter_init {x:Addr} {K:V->St->Prop} (R:Rm c.A 1) (hx:σ.hp x=some (.inst 193 []))
  (h:∀ D ep hp',D≠x->σ.hp D=none->hp' x=some (instS ⟨D,.none,fun _=>none⟩ srt0)->hp' D=some (.dictI [] ep)->(∀ b,b≠x->b≠D->hp' b=σ.hp b)->K .none ⟨σ.loc,hp'⟩):CodeV d c (.ref 129) [.obj x] [] σ K:=by
 refine CodeV_ok (bs:=[(ofS "self",.obj x),(ofS "graph",.none)]) (ok129 d) R.room bind_init (fun L=>?_)
 refine WB_cons ?_
 walk_at "w"
 refine W_DictI fun D ep hD=>?_
 have hDx:D≠x:=fun q=>by rw[q] at hD;rw[show σ.hp x=_ from hx] at hD;cases hD
 walk_at "w"
 refine set_S (fs:=[]) ((updH_ne (Ne.symm hDx)).trans hx) (by simp) (by kernel_rfl!) ?_
 walk_at "w"
 refine set_S (fs:=[(ofS "_node2info",.obj D)]) updH_at (by simp) (by kernel_rfl!) ?_
 walk_at "w"
 refine set_S (fs:=[(ofS "_node2info",.obj D),(ofS "_ready_nodes",.none)]) updH_at (by simp) (by kernel_rfl!) ?_
 walk_at "w"
 refine set_S (fs:=[(ofS "_node2info",.obj D),(ofS "_ready_nodes",.none),(ofS "_npassedout",.int 0)]) updH_at (by simp) (by kernel_rfl!) ?_
 walk_at "w"
 refine cmp_isNotNone (b:=true) rfl ?_
 walk_at "w"
 try simp only[Bool.not_true,Bool.false_eq_true,if_false]
 walk_at "w"
 exact h D ep _ hDx hD updH_at ((updH_ne hDx).trans ((updH_ne hDx).trans ((updH_ne hDx).trans ((updH_ne hDx).trans updH_at)))) fun b hb hD=>(updH_ne hb).trans ((updH_ne hb).trans ((updH_ne hb).trans ((updH_ne hb).trans (updH_ne hD))))
theorem call_sorter {K:V->St->Prop} (R:Rm c.A 2) (h:∀ x t hp',σ.hp x=none->SrtR hp' x srt0 t->(∀ b ao,σ.hp b=some ao->hp' b=some ao)->(∀ b,t.foot x b->σ.hp b=none)->K (.obj x) ⟨σ.loc,hp'⟩):CallV d c (.ref 193) [] [] σ K :=
 call_inst false (fI:=129) R (by kernel_rfl!) (by kernel_rfl!) (by kernel_rfl!) fun A' x R' hx=>sorter_init R' updH_at fun D ep hp' h1 h2 h3 h4 h5=>⟨rfl,by
  refine elA (updH_none h2) fun uu h2'=>?_
  refine h x ⟨D,.none,fun _=>none⟩ hp' hx ⟨h3,⟨[],ep,h4,rfl,fun n=>rfl⟩,fun n _=>rfl,(fun n a s e=>nomatch e),(fun n m a a' s s' e=>nomatch e),fun _=>rfl,fun l e=>nomatch e⟩ (fun b ao e=>?_) fun b hb=>?_
  ·have hbx:b≠x:=fun q=>clZ hx e q
   have hbD:b≠D:=fun q=>clZ h2' e q
   exact (h5 b hbx hbD).trans ((updH_ne hbx).trans e)
  ·rcases hb with q | q | q | ⟨_,_,_,q,_⟩
   ·rw[q];exact hx
   ·rw[q];exact h2'
   ·cases q
   ·cases q⟩
noncomputable def fd162 (P:Params):FuncData:=fnData (o162 P)
theorem ok162 (d:Wd):FnOk d 162 (fd162 d.w.params) (kidS S8_5) [ofS "self"]:=⟨⟨o162 d.w.params,by kernel_rfl!,by kernel_rfl!⟩,by kernel_rfl!,by kernel_rfl!,by kernel_rfl!,fun L=>by kernel_rfl!,by kernel_rfl!,by kernel_rfl!,by kernel_rfl!,by kernel_rfl!,by kernel_rfl!,by kernel_rfl!⟩
theorem active_spec {x:Addr} {S:Srt} {t:SD} {l:List Int} {K:V->St->Prop} (R:Rm c.A 1) (H:SrtR σ.hp x S t) (hl:S.rdy=some l) (hz:l.length<=1000) (h:K (.bool (decide (S.fi < S.po) || !l.isEmpty)) σ):CallV d c (.ref 162) [.obj x] [] σ K:=by
 refine CallV_ok (bs:=[(ofS "self",.obj x)]) (ok162 d) R.room (bind1 fun u=>rfl) (fun L=>?_)
 refine elEAA (H.rdyS l hl) fun Ra r1 r2 r3=>?_
 have hv:handV t.rv=true:=by rw[r1];rfl
 refine WB_cons ?_
 walk_at "w"
 refine att_rdy H.obj hv ?_
 walk_at "w"
 rw[r1]
 refine cmp_isNone (b:=false) rfl ?_
 walk_at "w"
 try simp only[Bool.false_eq_true,if_false]
 walk_at "w"
 refine att_fi H.obj ?_
 walk_at "w"
 refine att_po H.obj ?_
 walk_at "w"
 split
 ·rename_i q
  rw[q] at h ⊢
  walk_at "w"
  exact h
 ·rename_i q
  have q':decide (S.fi < S.po)=false:=by simpa using q
  rw[q'] at h
  walk_at "w"
  refine att_rdy H.obj hv ?_
  rw[r1]
  walk_at "w"
  refine call_bool (vs:=l.map V.int) (lstOf_obj (show _=some (AO.list _) from r2)) (by simpa using hz) ?_
  walk_at "w"
  simpa using h
end
section
variable {d:Wd} {c:Cx} {σ:St}
noncomputable def addS (n:Int) (S:Srt) (p:Int):Srt:=updN (ensN S p) p fun v=>(v.1,v.2++[n])
noncomputable def addF (S:Srt) (n:Int) (ps:List Int):Srt:=ps.foldl (addS n) (updN (ensN S n) n fun v=>(v.1+(ps.length:Int),v.2))
theorem put_len {α:Type} {n:Int} {v:α} {l:List (Int×α)}:(put n v l).length<=l.length+1:=by
 induction l with
 | nil=>simp[put]
 | cons kv r ih=>unfold put;split<;>simp<;>exact Y169 ih
theorem ensN_len (S:Srt) (n:Int):(ensN S n).nds.length<=S.nds.length+1:=by
 unfold ensN
 split
 ·exact Y107
 ·exact put_len
theorem updN_some {S:Srt} {n:Int} {f:Int×List Int->Int×List Int} {v:Int×List Int} (h:look n S.nds=some v):updN S n f={ S with nds:=put n (f v) S.nds }:=by unfold updN;rw[h]
structure Bnd (S:Srt) (B:Nat):Prop where
 n:S.nds.length<=B
 s:∀ m v,look m S.nds=some v->v.2.length<=B
theorem Bnd.ens {S:Srt} {B:Nat} (h:Bnd S B) (n:Int):Bnd (ensN S n) (B+1):=by
 refine ⟨Nat.le_trans (ensN_len S n) (Nat.succ_le_succ h.n),fun m v e=>?_⟩
 unfold ensN at e
 split at e
 ·exact Nat.le_succ_of_le (h.s m v e)
 ·dsimp only at e
  rw[look_put] at e
  split at e
  ·cases e;exact Nat.zero_le _
  ·exact Nat.le_succ_of_le (h.s m v e)
theorem Bnd.ensS {S:Srt} {B:Nat} (h:Bnd S B) (n m:Int) (v:Int×List Int) (e:look m (ensN S n).nds=some v):v.2.length<=B:=by
 unfold ensN at e
 split at e
 ·exact h.s m v e
 ·dsimp only at e
  rw[look_put] at e
  split at e
  ·cases e;exact Nat.zero_le _
  ·exact h.s m v e
theorem Bnd.put {S:Srt} {B:Nat} {n:Int} {v w:Int×List Int} (h:Bnd S B) (e:look n S.nds=some v) (hw:w.2.length<=B):Bnd { S with nds:=put n w S.nds } B:=by
 refine ⟨?_,fun m u q=>?_⟩
 ·have:=congrArg List.length (put_keys (v:=w) e)
  simp only[List.length_map] at this
  show (Mine.put n w S.nds).length<=B
  rw[this];exact h.n
 ·dsimp only at q
  rw[look_put] at q
  split at q
  ·cases q;exact hw
  ·exact h.s m u q
theorem ok143 (d:Wd):FnOk d 143 (fd143 d.w.params) (kidS S8_2) [ofS "self",ofS "node",ofS "predecessors"]:=⟨⟨o143 d.w.params,by kernel_rfl!,by kernel_rfl!⟩,by kernel_rfl!,by kernel_rfl!,by kernel_rfl!,fun L=>by kernel_rfl!,by kernel_rfl!,by kernel_rfl!,by kernel_rfl!,by kernel_rfl!,by kernel_rfl!,by kernel_rfl!⟩
theorem add_spec {x:Addr} {n:Int} {ps:List Int} {S:Srt} {t:SD} {K:V->St->Prop} (R:Rm c.A 4) (H:SrtR σ.hp x S t) (hr:S.rdy=none) {B:Nat} (hB:Bnd S B) (hz:B+ps.length<=400)
  (h:∀ hp' t',SrtR hp' x (addF S n ps) t'->KeepS x t t' σ.hp hp'->K .none ⟨σ.loc,hp'⟩):CodeV d c (.ref 143) (.obj x :: .int n::ps.map V.int) [] σ K:=by
 refine CodeV_ok (bs:=[(ofS "self",.obj x),(ofS "node",.int n),(ofS "predecessors",.tup (ps.map V.int))]) (ok143 d) R.room (bind_add (by simp;exact Y182 hz)) (fun L=>?_)
 have R':Rm (cxOf c.A (fd143 d.w.params) L 143).A 3:=R.in
 have hv:=H.rdyN hr
 refine WB_cons ?_
 walk_at "w"
 refine att_rdy H.obj (by rw[hv];rfl) ?_
 walk_at "w"
 rw[hv]
 refine cmp_isNotNone (b:=true) rfl ?_
 walk_at "w"
 try simp only[Bool.not_true,Bool.false_eq_true,if_false]
 walk_at "w"
 refine getM_S (name:=ofS "_get_nodeinfo") (f:=136) H.obj (by walk_at "m nolook") (by kernel_rfl!) (by kernel_rfl!) ?_
 walk_at "w"
 refine gni_spec R' H (by have:=hB.n;exact Y221 hz this) fun hp1 t1 a s H1 e1 hD1 hv1 k1=>?_
 walk_at "w"
 refine elEEAA (H1.node n a s e1) fun k0 sc0 q1 q2 q3=>?_
 refine WS_AugAtt ?_
 walk_at "w"
 refine att_np (a:=.int n) (b:=.int k0) (e:=.obj s) q2 rfl ?_
 walk_at "w"
 refine call_lenT (by simp;exact Y182 hz) ?_
 rw[List.length_map]
 refine inp_add ?_
 refine set_np (a:=.int n) (b:=.int k0) (e:=.obj s) q2 ?_
 walk_at "w"
 have H2:=H1.updA (k':=k0+(ps.length:Int)) e1 q1
 have k2:KeepS x t1 t1 hp1 (updH hp1 a (slotS n (k0+(ps.length:Int)) s)):=KeepS.upd (foot_n e1).1
 refine WS_For (fun _ _ q=>q) R'.handled ?_
 walk_at "w"
 refine ⟨_,_,iter_tup,?_⟩
 have hS2:addF S n ps=ps.foldl (addS n) { ensN S n with nds:=put n (k0+(ps.length:Int),sc0) (ensN S n).nds }:=by
  unfold addF;rw[updN_some q1]
 refine (fun G:(∀ (qs:List Int) (S':Srt) (t':SD) (hp':Addr->Option AO) (l:List (Str×V)) (B':Nat),Bnd S' B'->B'+qs.length<=450->SrtR hp' x S' t'->KeepS x t t' σ.hp hp'->qs.foldl (addS n) S'=addF S n ps->LocIn (lk l) [(ofS "self",.obj x),(ofS "node",.int n)] ->
   ForRun d _ _ _ _ _ _ (qs.map V.int) ⟨lk l,hp'⟩)=>G ps _ t1 _ _ (B+1) ((hB.ens n).put (w:=(k0+(ps.length:Int),sc0)) q1 (Nat.le_succ_of_le (hB.ensS n n (k0,sc0) q1))) (Y144 hz) H2 (k1.trans k2) hS2.symm ⟨by walk_at "l",by walk_at "l",trivial⟩) ?_
 intro qs
 induction qs with
 | nil =>
  intro S' t' hp' l B' _ _ H' k' e hl
  refine (fun G:WB d _ _ ⟨lk [(ofS "self",.obj x)],hp'⟩ _=>Ev.sub (le_loc (l':=[(ofS "self",.obj x)]) ⟨hl.1,trivial⟩) G) ?_
  walk_at "w"
  exact h hp' t' (e ▸ H') k'
 | cons p qs ih =>
  intro S' t' hp' l B' hB' hz' H' k' e hl
  refine (fun G:ForRun d _ _ _ _ _ _ _ ⟨lk [(ofS "self",.obj x),(ofS "node",.int n)],hp'⟩=>ForRun.sub (le_loc hl) G) ?_
  show Asg d _ _ _ _ _
  simp only[List.length_cons] at hz'
  walk_at "w"
  refine getM_S (name:=ofS "_get_nodeinfo") (f:=136) H'.obj (by walk_at "m nolook") (by kernel_rfl!) (by kernel_rfl!) ?_
  walk_at "w"
  refine gni_spec R' H' (by have:=hB'.n;exact Y220 hz' this) fun hp2 t2 a2 s2 H2 e2 hD2 hv2 k2=>?_
  walk_at "w"
  refine elEEAA (H2.node p a2 s2 e2) fun k3 sc3 r1 r2 r3=>?_
  refine att_su (a:=.int p) (b:=.int k3) (e:=.obj s2) r2 rfl ?_
  refine getM_list r3 PySem.F.slot_list_append PySem.F.type_list_append ?_
  walk_at "w"
  refine call_append r3 (by have:=hB'.ensS p p _ r1;rw[List.length_map];simp only at this;exact Y219 hz' this) ?_
  walk_at "w"
  have H3:=H2.updS (sc':=sc3++[n]) e2 r1
  rw[List.map_append,List.map_singleton] at H3
  refine ⟨trivial,ih _ t2 _ _ (B'+1) ((hB'.ens p).put r1 ?_) (Y129 hz') H3 (k'.trans (k2.trans (KeepS.upd (foot_n e2).2))) ?_ ?_⟩
  ·have:=hB'.ensS p p _ r1
   simp only[List.length_append,List.length_singleton] at this ⊢
   exact Y173 this
  ·rw[<- e,List.foldl_cons]
   congr 1
   unfold addS
   rw[updN_some r1]
  ·exact⟨by walk_at "l",by walk_at "l",trivial⟩
end
section
variable {d:Wd} {c:Cx} {σ:St}
theorem set_po {x:Addr} {S:Srt} {t:SD} {v:Int} {K:Unit->St->Prop} (hp:σ.hp x=some (instS t S)) (h:K () (σ.upd x (instS t { S with po:=v }))):SetA d c (.obj x) (ofS "_npassedout") (.int v) σ K :=
 set_S hp (by simp) (by kernel_rfl!) (by
  rw[show put (ofS "_npassedout") (V.int v) [(ofS "_node2info",V.obj t.D),(ofS "_ready_nodes",t.rv),(ofS "_npassedout",V.int S.po),(ofS "_nfinished",V.int S.fi)]=[(ofS "_node2info",V.obj t.D),(ofS "_ready_nodes",t.rv),(ofS "_npassedout",V.int v),(ofS "_nfinished",V.int S.fi)] by walk_at "p"]
  exact h)
theorem set_fi {x:Addr} {S:Srt} {t:SD} {v:Int} {K:Unit->St->Prop} (hp:σ.hp x=some (instS t S)) (h:K () (σ.upd x (instS t { S with fi:=v }))):SetA d c (.obj x) (ofS "_nfinished") (.int v) σ K :=
 set_S hp (by simp) (by kernel_rfl!) (by
  rw[show put (ofS "_nfinished") (V.int v) [(ofS "_node2info",V.obj t.D),(ofS "_ready_nodes",t.rv),(ofS "_npassedout",V.int S.po),(ofS "_nfinished",V.int S.fi)]=[(ofS "_node2info",V.obj t.D),(ofS "_ready_nodes",t.rv),(ofS "_npassedout",V.int S.po),(ofS "_nfinished",V.int v)] by walk_at "p"]
  exact h)
theorem set_rdy {x:Addr} {S:Srt} {t:SD} {v:V} {K:Unit->St->Prop} (hp:σ.hp x=some (instS t S)) (h:K () (σ.upd x (instS { t with rv:=v } S))):SetA d c (.obj x) (ofS "_ready_nodes") v σ K :=
 set_S hp (by simp) (by kernel_rfl!) (by
  rw[show put (ofS "_ready_nodes") v [(ofS "_node2info",V.obj t.D),(ofS "_ready_nodes",t.rv),(ofS "_npassedout",V.int S.po),(ofS "_nfinished",V.int S.fi)]=[(ofS "_node2info",V.obj t.D),(ofS "_ready_nodes",v),(ofS "_npassedout",V.int S.po),(ofS "_nfinished",V.int S.fi)] by walk_at "p"]
  exact h)
theorem SrtR.updX {hp:Addr->Option AO} {x:Addr} {S:Srt} {t:SD} {p f:Int} (H:SrtR hp x S t):SrtR (updH hp x (instS t { S with po:=p,fi:=f })) x { S with po:=p,fi:=f } t:=by
 have ne:∀ {b ao},hp b=some ao->(∀ fs,ao ≠ .inst 193 fs)->b≠x:=fun eb h q=>by rw[q,H.obj] at eb;cases eb;exact h _ rfl
 refine elEEAA H.dict fun kvs ep d1 d2 d3=>?_
 refine ⟨updH_at,⟨kvs,ep,(updH_ne (ne d1 fun _=>AO.noConfusion)).trans d1,d2,d3⟩,H.none_,fun m a s em=>?_,H.inj,H.rdyN,fun l el=>?_⟩
 ·refine elEEAA (H.node m a s em) fun k sc q1 q2 q3=>?_
  exact⟨k,sc,q1,(updH_ne (ne q2 fun _=>AO.noConfusion)).trans q2,(updH_ne (ne q3 fun _=>AO.noConfusion)).trans q3⟩
 ·refine elEAA (H.rdyS l el) fun R r1 r2 r3=>?_
  exact⟨R,r1,(updH_ne (ne r2 fun _=>AO.noConfusion)).trans r2,r3⟩
theorem SrtR.updR {hp:Addr->Option AO} {x R:Addr} {S:Srt} {t:SD} {l l':List Int} (H:SrtR hp x S t) (hl:S.rdy=some l) (hR:t.rv = .obj R):SrtR (updH hp R (.list (l'.map V.int))) x { S with rdy:=some l' } t:=by
 refine elEAA (H.rdyS l hl) fun R' r1 r2 r3=>?_
 rw[hR] at r1;cases r1
 have ne:∀ {b ao},hp b=some ao->(∀ fs,ao ≠ .list fs)->b≠R:=fun eb h q=>by rw[q,r2] at eb;cases eb;exact h _ rfl
 refine elEEAA H.dict fun kvs ep d1 d2 d3=>?_
 refine ⟨(updH_ne (ne H.obj fun _=>AO.noConfusion)).trans H.obj,⟨kvs,ep,(updH_ne (ne d1 fun _=>AO.noConfusion)).trans d1,d2,d3⟩,H.none_,fun m a s em=>?_,H.inj,(fun e=>nomatch e),fun l1 el=>?_⟩
 ·refine elEEAA (H.node m a s em) fun k sc q1 q2 q3=>?_
  exact⟨k,sc,q1,(updH_ne (ne q2 fun _=>AO.noConfusion)).trans q2,(updH_ne (r3 m a s em)).trans q3⟩
 ·cases el
  exact⟨R,hR,updH_at,r3⟩
theorem foot_R {t:SD} {x R:Addr} (e:t.rv = .obj R):t.foot x R:=.inr (.inr (.inl e))
theorem foot_x {t:SD} {x:Addr}:t.foot x x:=.inl rfl
noncomputable def outS (S:Srt) (n:Int):Srt:=updN S n fun v=>(-1,v.2)
noncomputable def readyF (S:Srt) (l:List Int):Srt:={ l.foldl outS S with rdy:=some [],po:=(l.foldl outS S).po+(l.length:Int) }
theorem outS_some {S:Srt} {n m:Int}:(look m (outS S n).nds).isSome=(look m S.nds).isSome:=by
 unfold outS updN
 split
 ·rename_i v q
  try dsimp only
  rw[look_put]
  split
  ·rename_i z;rw[z,q];rfl
  ·rfl
 ·rfl
theorem SrtR.has {hp:Addr->Option AO} {x:Addr} {S:Srt} {t:SD} {m:Int} (H:SrtR hp x S t) (h:(look m S.nds).isSome=true):∃ a s k sc,t.ad m=some (a,s)/\look m S.nds=some (k,sc)/\hp a=some (slotS m k s)/\hp s=some (.list (sc.map V.int)):=by
 cases e:t.ad m with
 | none=>rw[H.none_ m e] at h;cases h
 | some p =>
  obtain⟨a,s⟩:=p
  refine elEEAA (H.node m a s e) fun k sc q1 q2 q3=>?_
  exact⟨a,s,k,sc,rfl,q1,q2,q3⟩
theorem SrtR.dlook {hp:Addr->Option AO} {x:Addr} {S:Srt} {t:SD} {m:Int} {a s:Addr} (H:SrtR hp x S t) (e:t.ad m=some (a,s)):∃ kvs ep,hp t.D=some (.dictI kvs ep)/\look m kvs=some (.obj a):=by
 refine elEEAA H.dict fun kvs ep d1 d2 d3=>?_
 exact⟨kvs,ep,d1,by rw[d3,e];rfl⟩
noncomputable def fd155 (P:Params):FuncData:=fnData (o155 P)
theorem ok155 (d:Wd):FnOk d 155 (fd155 d.w.params) (kidS S8_4) [ofS "self"]:=⟨⟨o155 d.w.params,by kernel_rfl!,by kernel_rfl!⟩,by kernel_rfl!,by kernel_rfl!,by kernel_rfl!,fun L=>by kernel_rfl!,by kernel_rfl!,by kernel_rfl!,by kernel_rfl!,by kernel_rfl!,by kernel_rfl!,by kernel_rfl!⟩
theorem ready_spec {x:Addr} {S:Srt} {t:SD} {l:List Int} {K:V->St->Prop} (R:Rm c.A 1) (H:SrtR σ.hp x S t) (hl:S.rdy=some l) (hz:l.length<=1000) (hm:∀ m∈l,(look m S.nds).isSome=true)
  (h:∀ hp',SrtR hp' x (readyF S l) t->KeepS x t t σ.hp hp'->K (.tup (l.map V.int)) ⟨σ.loc,hp'⟩):CallV d c (.ref 155) [.obj x] [] σ K:=by
 refine CallV_ok (bs:=[(ofS "self",.obj x)]) (ok155 d) R.room (bind1 fun u=>rfl) (fun L=>?_)
 have R':Rm (cxOf c.A (fd155 d.w.params) L 155).A 0:=R.in
 refine elEAA (H.rdyS l hl) fun Ra r1 r2 r3=>?_
 have hv:handV t.rv=true:=by rw[r1];rfl
 refine WB_cons ?_
 walk_at "w"
 refine att_rdy H.obj hv ?_
 walk_at "w"
 rw[r1]
 refine cmp_isNone (b:=false) rfl ?_
 walk_at "w"
 try simp only[Bool.false_eq_true,if_false]
 walk_at "w"
 refine att_rdy H.obj hv ?_
 rw[r1]
 walk_at "w"
 refine call_tuple (vs:=l.map V.int) (lstOf_obj (show _=some (AO.list _) from r2)) (by simpa using hz) ?_
 walk_at "w"
 refine att_n2i H.obj ?_
 walk_at "w"
 refine WS_For (fun _ _ q=>q) R'.handled ?_
 walk_at "w"
 refine ⟨_,_,iter_tup,?_⟩
 refine (fun G:(∀ (qs:List Int) (S':Srt) (hp':Addr->Option AO) (ll:List (Str×V)),(∀ m∈qs,(look m S'.nds).isSome=true)->SrtR hp' x S' t->S'.rdy=some l->KeepS x t t σ.hp hp'->qs.foldl outS S'=l.foldl outS S->LocIn (lk ll) [(ofS "self",.obj x),(ofS "result",.tup (l.map V.int)),(ofS "n2i",.obj t.D)] ->
   ForRun d _ _ _ _ _ _ (qs.map V.int) ⟨lk ll,hp'⟩)=>G l S _ _ hm H hl KeepS.refl rfl ⟨by walk_at "l",by walk_at "l",by walk_at "l",trivial⟩) ?_
 intro qs
 induction qs with
 | nil =>
  intro S' hp' ll _ H' hl' k' e hll
  refine (fun G:WB d _ _ ⟨lk [(ofS "self",.obj x),(ofS "result",.tup (l.map V.int)),(ofS "n2i",.obj t.D)],hp'⟩ _=>Ev.sub (le_loc hll) G) ?_
  walk_at "w"
  refine att_rdy H'.obj hv ?_
  rw[r1]
  refine elEAA (H'.rdyS l hl') fun Ra' q1 q2 q3=>?_
  rw[r1] at q1;cases q1
  refine getM_list q2 PySem.F.slot_list_clear PySem.F.type_list_clear ?_
  walk_at "w"
  refine call_lclear q2 (by simpa using hz) ?_
  walk_at "w"
  have H2:=H'.updR (l':=[]) hl' r1
  refine WS_AugAtt ?_
  walk_at "w"
  refine att_po (S:={ S' with rdy:=some [] }) (t:=t) H2.obj ?_
  walk_at "w"
  refine call_lenT (by simpa using hz) ?_
  rw[List.length_map]
  refine inp_add ?_
  refine set_po (S:={ S' with rdy:=some [] }) (t:=t) H2.obj ?_
  walk_at "w"
  have H3:=H2.updX (p:=S'.po+(l.length:Int)) (f:=S'.fi)
  have e':S'=l.foldl outS S:=e
  subst e'
  exact h _ H3 (k'.trans ((KeepS.upd (foot_R r1)).trans (KeepS.upd foot_x)))
 | cons m qs ih =>
  intro S' hp' ll hm' H' hl' k' e hll
  refine (fun G:ForRun d _ _ _ _ _ _ _ ⟨lk [(ofS "self",.obj x),(ofS "result",.tup (l.map V.int)),(ofS "n2i",.obj t.D)],hp'⟩=>ForRun.sub (le_loc hll) G) ?_
  show Asg d _ _ _ _ _
  refine elEEEEAAA (H'.has (hm' m (.head _))) fun a s k sc e1 e2 e3 e4=>?_
  refine elEEA (H'.dlook e1) fun kvs ep d1 d2=>?_
  walk_at "w"
  refine sub_dictI d1 d2 ?_
  refine set_np (a:=.int m) (b:=.int k) (e:=.obj s) e3 ?_
  walk_at "w"
  have H2:=H'.updA (k':=-1) e1 e2
  have eS:outS S' m={ S' with nds:=put m (-1,sc) S'.nds }:=updN_some e2
  refine ⟨trivial,ih { S' with nds:=put m (-1,sc) S'.nds } _ _ (fun m' hm2=>?_) H2 hl' (k'.trans (KeepS.upd (foot_n e1).1)) ?_ ?_⟩
  ·rw[<- eS,outS_some];exact hm' m' (.tail _ hm2)
  ·rw[<- e,List.foldl_cons,eS]
  ·exact⟨by walk_at "l",by walk_at "l",by walk_at "l",trivial⟩
end
section
variable {d:Wd} {c:Cx} {σ:St}
noncomputable def subS (S:Srt) (m:Int):Option Srt:=match look m S.nds,S.rdy with
 | some (k,sc),some l=>some { S with nds:=put m (k - 1,sc) S.nds,rdy:=some (if k - 1=0 then l++[m] else l) }
 | _,_=>none
noncomputable def subAll:List Int->Srt->Option Srt
 | [],S=>some S
 | m::ms,S=>(subS S m).bind (subAll ms)
noncomputable def doneS (S:Srt) (n:Int):Option Srt:=match look n S.nds with
 | some (k,sc)=>if k = -1 then (subAll sc { S with nds:=put n (-2,sc) S.nds }).map fun S'=>{ S' with fi:=S'.fi+1 } else none
 | none=>none
noncomputable def doneF:List Int->Srt->Option Srt
 | [],S=>some S
 | n::ns,S=>(doneS S n).bind (doneF ns)
structure Bn2 (S:Srt) (B C:Nat):Prop where
 s:∀ m v,look m S.nds=some v->v.2.length<=B
 r:∀ l,S.rdy=some l->l.length<=C
theorem Bn2.put {S:Srt} {B C:Nat} {n:Int} {k k':Int} {sc:List Int} (h:Bn2 S B C) (e:look n S.nds=some (k,sc)):Bn2 { S with nds:=put n (k',sc) S.nds } B C:=by
 refine ⟨fun m u q=>?_,h.r⟩
 dsimp only at q
 rw[look_put] at q
 split at q
 ·cases q;exact h.s n (k,sc) e
 ·exact h.s m u q
theorem call_get? {a:Addr} {kvs:List (Int×V)} {ep:Nat} {m:Int} {v:V} {K:V->St->Prop} (hp:σ.hp a=some (.dictI kvs ep)) (hv:look m kvs=some v) (h:K v σ):CallV d c (.builtin "dict.get") [.obj a,.int m] [] σ K:=call_getI hp (by rw[hv];exact h)
theorem ok176 (d:Wd):FnOk d 176 (fd176 d.w.params) (kidS S8_7) [ofS "self",ofS "nodes"]:=⟨⟨o176 d.w.params,by kernel_rfl!,by kernel_rfl!⟩,by kernel_rfl!,by kernel_rfl!,by kernel_rfl!,fun L=>by kernel_rfl!,by kernel_rfl!,by kernel_rfl!,by kernel_rfl!,by kernel_rfl!,by kernel_rfl!,by kernel_rfl!⟩
theorem done_spec {x:Addr} {S S':Srt} {t:SD} {ns:List Int} {l:List Int} {B C:Nat} {K:V->St->Prop} (R:Rm c.A 1) (H:SrtR σ.hp x S t) (hl:S.rdy=some l) (hz:ns.length<=1000) (hB:Bn2 S B C) (hC:C+ns.length * B<=900) (hd:doneF ns S=some S')
  (h:∀ hp',SrtR hp' x S' t->KeepS x t t σ.hp hp'->K .none ⟨σ.loc,hp'⟩):CodeV d c (.ref 176) (.obj x::ns.map V.int) [] σ K:=by
 refine CodeV_ok (bs:=[(ofS "self",.obj x),(ofS "nodes",.tup (ns.map V.int))]) (ok176 d) R.room (bind_done (by simpa using hz)) (fun L=>?_)
 obtain R':Rm (cxOf c.A (fd176 d.w.params) L 176).A 0:=R.in
 refine elEAA (H.rdyS l hl) fun Ra r1 r2 r3=>?_
 have hv:handV t.rv=true:=by rw[r1];rfl
 refine WB_cons ?_
 walk_at "w"
 refine att_rdy H.obj hv ?_
 walk_at "w"
 simp only[r1]
 refine cmp_isNone (b:=false) rfl ?_
 walk_at "w"
 try simp only[Bool.false_eq_true,if_false]
 walk_at "w"
 refine att_n2i H.obj ?_
 walk_at "w"
 refine WS_For (fun _ _ q=>q) R'.handled ?_
 walk_at "w"
 refine ⟨_,_,iter_tup,?_⟩
 refine (fun G:(∀ (qs:List Int) (S1:Srt) (hp':Addr->Option AO) (ll:List (Str×V)) (C':Nat),SrtR hp' x S1 t->(∃ l1,S1.rdy=some l1)->Bn2 S1 B C'->C'+qs.length * B<=900->KeepS x t t σ.hp hp'->doneF qs S1=some S'->LocIn (lk ll) [(ofS "self",.obj x),(ofS "n2i",.obj t.D)] ->
   ForRun d _ _ _ _ _ _ (qs.map V.int) ⟨lk ll,hp'⟩)=>G ns S _ _ C H ⟨l,hl⟩ hB hC KeepS.refl hd ⟨by walk_at "l",by walk_at "l",trivial⟩) ?_
 intro qs
 induction qs with
 | nil =>
  intro S1 hp' ll C' H' _ _ _ k' e hll
  refine (fun G:WB d _ _ ⟨lk [(ofS "self",.obj x),(ofS "n2i",.obj t.D)],hp'⟩ _=>Ev.sub (le_loc hll) G) ?_
  walk_at "w"
  cases e
  exact h hp' H' k'
 | cons n qs ih =>
  intro S1 hp1 ll C1 H1 hl1 hB1 hC1 k1 e hll
  refine elE hl1 fun l1 hl1=>?_
  refine (fun G:ForRun d _ _ _ _ _ _ _ ⟨lk [(ofS "self",.obj x),(ofS "n2i",.obj t.D)],hp1⟩=>ForRun.sub (le_loc hll) G) ?_
  refine (?_:Asg d _ _ _ _ _)
  unfold doneF at e
  refine elEA (Option.bind_eq_some_iff.mp e) fun S2 e1 e2=>?_
  unfold doneS at e1
  cases hn:look n S1.nds with
  | none=>rw[hn] at e1;cases e1
  | some v =>
   obtain⟨k,sc⟩:=v
   rw[hn] at e1
   dsimp only at e1
   by_cases hk:k = -1
   case neg=>rw[if_neg hk] at e1;cases e1
   subst hk
   rw[if_pos rfl] at e1
   refine elE (Option.map_eq_some_iff.mp e1) fun S3 zz100=>?_;obtain e3:=zz100.1;obtain e4:=zz100.2
   refine elEEEEAAA (H1.has (by rw[hn];rfl)) fun a s k' sc' a1 a2 a3 a4=>?_
   simp only[hn] at a2;cases a2
   refine elEE (H1.dlook a1) fun kvs ep zz103=>?_;obtain d1:=zz103.1;obtain d2:=zz103.2
   walk_at "w"
   refine W_NamedExpr ?_
   walk_at "w"
   refine getM_dictI d1 PySem.F.slot_dict_get PySem.F.type_dict_get ?_
   walk_at "w"
   refine call_get? d1 d2 ?_
   walk_at "w"
   refine cmp_isNone (b:=false) rfl ?_
   walk_at "w"
   try simp only[Bool.false_eq_true,if_false]
   walk_at "w"
   refine att_np (a:=.int n) (b:=.int (-1)) (e:=.obj s) a3 rfl ?_
   walk_at "w"
   try simp only[ne_eq,not_true_eq_false,decide_false,Bool.false_eq_true,if_false]
   walk_at "w"
   refine set_np (a:=.int n) (b:=.int (-1)) (e:=.obj s) a3 ?_
   walk_at "w"
   obtain H2:=H1.updA (k':=-2) a1 hn
   obtain hB2:=hB1.put (k':=-2) hn
   obtain k2:KeepS x t t hp1 (updH hp1 a (slotS n (-2) s)):=KeepS.upd (foot_n a1).1
   obtain hs2:updH hp1 a (slotS n (-2) s) s=some (.list (sc.map V.int)):=(updH_ne fun q=>clA a3 a4 q).trans a4
   refine WS_For (fun _ _ q=>q) R'.handled ?_
   walk_at "w"
   refine att_su (a:=.int n) (b:=.int (-2)) (e:=.obj s) updH_at rfl ?_
   refine ⟨_,_,iter_list hs2,?_⟩
   obtain hsc:sc.length<=B:=hB1.s n _ hn
   obtain hC1B:C1+B<=900:=by have:=hC1;simp only[List.length_cons,Nat.add_mul,Nat.one_mul] at this;exact Y210 this
   refine (fun G:(∀ (ms:List Int) (S4:Srt) (hp':Addr->Option AO) (ll:List (Str×V)) (C':Nat),SrtR hp' x S4 t->(∃ l1,S4.rdy=some l1)->Bn2 S4 B C'->C'+ms.length<=C1+B->KeepS x t t σ.hp hp'->subAll ms S4=some S3->hp' s=some (.list (sc.map V.int))->LocIn (lk ll) [(ofS "self",.obj x),(ofS "n2i",.obj t.D)] ->
     ForRun d _ _ _ _ _ _ (ms.map V.int) ⟨lk ll,hp'⟩)=>G sc _ _ _ C1 H2 ⟨l1,hl1⟩ hB2 (Y229 hsc) (k1.trans k2) e3 hs2 ⟨by walk_at "l",by walk_at "l",trivial⟩) ?_
   intro ms
   induction ms with
   | nil =>
    intro S4 hp4 ll4 C4 H4 hl4 hB4 hC4 k4 e5 _ hll4
    cases e5
    refine (fun G:WB d _ _ ⟨lk [(ofS "self",.obj x),(ofS "n2i",.obj t.D)],hp4⟩ _=>Ev.sub (le_loc hll4) G) ?_
    walk_at "w"
    refine WS_AugAtt ?_
    walk_at "w"
    refine att_fi H4.obj ?_
    walk_at "w"
    refine inp_add ?_
    refine set_fi H4.obj ?_
    walk_at "w"
    obtain H5:=H4.updX (p:=S3.po) (f:=S3.fi+1)
    obtain hC5:C4+B * 0<=C1+B:=by simp only[List.length_nil] at hC4;exact Y214 hC4
    refine ⟨trivial,ih { S3 with fi:=S3.fi+1 } _ _ (C1+B) H5 ?_ ⟨hB4.s,fun l5 q=>?_⟩ ?_ (k4.trans (KeepS.upd foot_x)) ?_ ?_⟩
    ·exact hl4
    ·obtain this:=hB4.r l5 q;exact Y245 hC5 this
    ·simp only[List.length_cons,Nat.add_mul,Nat.one_mul] at hC1 ⊢;exact Y209 hC1
    ·simp only[<- e4] at e2;exact e2
    ·exact⟨by walk_at "l",by walk_at "l",trivial⟩
   | cons m ms ih2 =>
    intro S4 hp4 ll4 C4 H4 hl4 hB4 hC4 k4 e5 hs4 hll4
    refine elE hl4 fun l4 hl4=>?_
    refine (fun G:ForRun d _ _ _ _ _ _ _ ⟨lk [(ofS "self",.obj x),(ofS "n2i",.obj t.D)],hp4⟩=>ForRun.sub (le_loc hll4) G) ?_
    refine (?_:Asg d _ _ _ _ _)
    unfold subAll at e5
    refine elEA (Option.bind_eq_some_iff.mp e5) fun S5 e6 e7=>?_
    unfold subS at e6
    rw[hl4] at e6
    cases hm:look m S4.nds with
    | none=>rw[hm] at e6;cases e6
    | some v =>
     obtain⟨km,scm⟩:=v
     rw[hm] at e6
     dsimp only at e6
     have e6:=Option.some.inj e6
     refine elEEEEAAA (H4.has (by rw[hm];rfl)) fun am sm k9 sc9 b1 b2 b3 b4=>?_
     rw[hm] at b2;cases b2
     refine elEE (H4.dlook b1) fun kvs4 ep4 zz173=>?_;obtain f1:=zz173.1;obtain f2:=zz173.2
     walk_at "w"
     refine sub_dictI f1 f2 ?_
     walk_at "w"
     refine WS_AugAtt ?_
     walk_at "w"
     refine att_np (a:=.int m) (b:=.int km) (e:=.obj sm) b3 rfl ?_
     walk_at "w"
     refine inp_sub ?_
     refine set_np (a:=.int m) (b:=.int km) (e:=.obj sm) b3 ?_
     walk_at "w"
     obtain H5:=H4.updA (k':=km - 1) b1 hm
     obtain k5:KeepS x t t hp4 (updH hp4 am (slotS m (km - 1) sm)):=KeepS.upd (foot_n b1).1
     obtain hB5:=hB4.put (k':=km - 1) hm
     obtain hs5:updH hp4 am (slotS m (km - 1) sm) s=some (.list (sc.map V.int)):=(updH_ne fun q=>clA b3 hs4 q).trans hs4
     refine att_np (a:=.int m) (b:=.int (km - 1)) (e:=.obj sm) updH_at rfl ?_
     walk_at "w"
     simp only[List.length_cons] at hC4
     by_cases hz0:km - 1=0
     ·rw[if_pos hz0] at e6
      simp only[decide_eq_true hz0]
      try simp only[if_true]
      walk_at "w"
      refine att_rdy (S:={ S4 with nds:=put m (km - 1,scm) S4.nds }) (t:=t) H5.obj hv ?_
      refine elEAA (H5.rdyS l4 hl4) fun R5 q1 q2 q3=>?_
      have q1':t.rv = .obj Ra:=r1
      rw[q1'] at q1;cases q1
      rw[q1']
      refine getM_list q2 PySem.F.slot_list_append PySem.F.type_list_append ?_
      walk_at "w"
      refine call_append q2 (by obtain this:=hB4.r l4 hl4;simp only[List.length_map];exact Y246 hC1B hC4 this) ?_
      walk_at "w"
      obtain H6:=H5.updR (l':=l4++[m]) hl4 q1'
      obtain hsR:s≠Ra:=r3 n a s a1
      simp only[List.map_append,List.map_singleton] at H6
      refine ⟨(updH_ne hsR).trans hs5,ih2 S5 _ _ (C4+1) (e6 ▸ H6) ⟨l4++[m],by simp only[<- e6]⟩ ?_ (Y234 hC4) (k4.trans (k5.trans (KeepS.upd (foot_R q1')))) e7 ((updH_ne hsR).trans hs5) ?_⟩
      ·rw[<- e6]
       refine ⟨hB5.s,fun l5 q=>?_⟩
       cases q
       obtain this:=hB4.r l4 hl4
       simp only[List.length_append,List.length_singleton];exact Y173 this
      ·exact⟨by walk_at "l",by walk_at "l",trivial⟩
     ·rw[if_neg hz0] at e6
      simp only[decide_eq_false hz0]
      try simp only[Bool.false_eq_true,if_false]
      walk_at "w"
      obtain e6':S5={ S4 with nds:=put m (km - 1,scm) S4.nds }:=by rw[<- e6,<- hl4]
      refine ⟨hs5,ih2 S5 _ _ C4 (e6' ▸ H5) ⟨l4,by simp only[e6'];exact hl4⟩ (e6' ▸ hB5) (Y235 hC4) (k4.trans k5) e7 hs5 ?_⟩
      exact⟨by walk_at "l",by walk_at "l",trivial⟩
end
section
variable {d:Wd} {c:Cx} {σ:St}
theorem Fm_cx {A:Around} {fd:FuncData} {L fa:Addr}:Fm (cxOf A fd L fa):=⟨rfl,fun fs h=>by
 have h':A.frames.map (callEnvC fd L fa :: ·)=some fs:=h
 refine elEA (Option.map_eq_some_iff.mp h') fun l uu hq2=>?_
 subst hq2
 exact⟨l,rfl⟩⟩
noncomputable abbrev Nds:=List (Int×(Int×List Int))
noncomputable def scO (nd:Nds) (m:Int):List Int:=match look m nd with
 | some v=>v.2
 | none=>[]
noncomputable def popTo (nd:Nds):List (Int×Nat)->Option (Int×List (Int×Nat))
 | []=>none
 | (m,i)::r=>match (scO nd m)[i]? with
  | some n'=>some (n',(m,i+1)::r)
  | none=>popTo nd r
noncomputable def fcRun (nd:Nds):Nat->List Int->List (Int×Nat)->Int->Option (List Int)
 | 0,_,_,_=>none
 | f+1,seen,stk,n =>
  if n∈seen then (if n∈stk.map (·.1) then none else match popTo nd stk with
   | none=>some seen
   | some (n',stk')=>fcRun nd f seen stk' n')
  else if (look n nd).isSome=true then match popTo nd ((n,0)::stk) with
   | none=>some (n::seen)
   | some (n',stk')=>fcRun nd f (n::seen) stk' n'
  else none
noncomputable def fcAll (nd:Nds) (fuel:Nat):List Int->List Int->Option (List Int)
 | [],seen=>some seen
 | n::ns,seen=>if n∈seen then fcAll nd fuel ns seen else (fcRun nd fuel seen [] n).bind (fcAll nd fuel ns)
noncomputable def WRs (t:SD) (hp0 hp:Addr->Option AO):List (Int×Nat)->List Addr->Prop
 | [],[]=>True
 | (m,i)::r,w::ws=>(∃ a s,t.ad m=some (a,s)/\hp w=some (.wrap s i))/\hp0 w=none/\WRs t hp0 hp r ws
 | _,_=>False
structure FC (t:SD) (nd:Nds) (hp0 hp:Addr->Option AO) (SA IA NA DA:Addr) (seen:List Int) (stk:List (Int×Nat)) (ws:List Addr):Prop where
 old:∀ b ao,hp0 b=some ao->hp b=some ao
 st:hp SA=some (.list ((stk.map (·.1)).reverse.map V.int))
 it:hp IA=some (.list (ws.reverse.map V.obj))
 se:∃ Sf,hp NA=some (.setI Sf seen.length)/\∀ k,Sf k=decide (k∈seen)
 di:∃ kv ep,hp DA=some (.dictI kv ep)/\kv.map (·.1)=(stk.map (·.1)).reverse
 wr:WRs t hp0 hp stk ws
 n1:ws.Nodup
 n2:(stk.map (·.1)).Nodup
 n3:seen.Nodup
 s1:∀ m∈seen,m∈nd.map (·.1)
 s2:∀ m∈stk.map (·.1),m∈seen
 f1:hp0 SA=none
 f2:hp0 IA=none
 f3:hp0 NA=none
 f4:hp0 DA=none
 f5:SA≠IA
theorem WRs.len {t:SD} {hp0 hp:Addr->Option AO}:∀ {stk:List (Int×Nat)} {ws:List Addr},WRs t hp0 hp stk ws->stk.length=ws.length
 | [],[],_=>rfl
 | (_,_)::r,_::ws,h=>by simp[WRs.len (stk:=r) (ws:=ws) h.2.2]
 | [],_::_,h=>h.elim
 | (_,_)::_,[],h=>h.elim
theorem WRs.congr {t:SD} {hp0 hp hp':Addr->Option AO}:∀ {stk:List (Int×Nat)} {ws:List Addr},WRs t hp0 hp stk ws->(∀ w∈ws,hp' w=hp w)->WRs t hp0 hp' stk ws
 | [],[],_,_=>trivial
 | (_,_)::r,w::ws,h,k=>⟨by refine elEEA h.1 fun a s e1 e2=>?_;exact⟨a,s,e1,(k w (.head _)).trans e2⟩,h.2.1,WRs.congr h.2.2 fun w' h'=>k w' (.tail _ h')⟩
 | [],_::_,h,_=>h.elim
 | (_,_)::_,[],h,_=>h.elim
theorem WRs.mem {t:SD} {hp0 hp:Addr->Option AO}:∀ {stk:List (Int×Nat)} {ws:List Addr} {w:Addr},WRs t hp0 hp stk ws->w∈ws->hp0 w=none/\∃ s i,hp w=some (.wrap s i)
 | (_,_)::r,w'::ws,w,h,hm=>by
  rcases List.mem_cons.mp hm with rfl | hm
  ·refine elEEA h.1 fun a s e1 e2=>?_
   exact⟨h.2.1,s,_,e2⟩
  ·exact WRs.mem h.2.2 hm
 | [],[],_,_,hm=>nomatch hm
 | [],_::_,_,h,_=>h.elim
 | (_,_)::_,[],_,h,_=>h.elim
theorem FC.len {t:SD} {nd:Nds} {hp0 hp:Addr->Option AO} {SA IA NA DA:Addr} {seen:List Int} {stk:List (Int×Nat)} {ws:List Addr} (h:FC t nd hp0 hp SA IA NA DA seen stk ws):seen.length<=nd.length/\stk.length<=nd.length/\ws.length<=nd.length:=by
 have h1:=nodup_le _ _ h.n3 h.s1
 have h2:=nodup_le _ _ h.n2 h.s2
 have h3:=h.wr.len
 simp only[List.length_map] at h1 h2
 exact Y243 h3 h1 h2
theorem FC.next {t:SD} {nd:Nds} {hp0 hp:Addr->Option AO} {SA IA NA DA w a s:Addr} {seen:List Int} {m:Int} {i:Nat} {r:List (Int×Nat)} {ws:List Addr} (h:FC t nd hp0 hp SA IA NA DA seen ((m,i)::r) (w::ws)) (ha:t.ad m=some (a,s)) :
  FC t nd hp0 (updH hp w (.wrap s (i+1))) SA IA NA DA seen ((m,i+1)::r) (w::ws):=by
 refine elAEE (h.wr.mem (.head _)) fun h0 s0 i0 hw=>?_
 have ne:∀ {b ao},hp b=some ao->(∀ s i,ao ≠ .wrap s i)->b≠w:=fun eb q z=>by rw[z,hw] at eb;cases eb;exact q _ _ rfl
 refine elEA h.se fun Sf e1 e2=>?_
 refine elEEA h.di fun kv ep f1 f2=>?_
 have n1:=h.n1
 rw[List.nodup_cons] at n1
 refine ⟨fun b ao e=>(updH_ne fun z=>clZ h0 e z).trans (h.old b ao e),(updH_ne (ne h.st fun _ _=>AO.noConfusion)).trans h.st,(updH_ne (ne h.it fun _ _=>AO.noConfusion)).trans h.it,
  ⟨Sf,(updH_ne (ne e1 fun _ _=>AO.noConfusion)).trans e1,e2⟩,⟨kv,ep,(updH_ne (ne f1 fun _ _=>AO.noConfusion)).trans f1,f2⟩,⟨⟨a,s,ha,updH_at⟩,h0,h.wr.2.2.congr fun w' hw'=>updH_ne fun z=>n1.1 (z ▸ hw')⟩,h.n1,h.n2,h.n3,h.s1,h.s2,h.f1,h.f2,h.f3,h.f4,h.f5⟩
theorem FC.kinds {t:SD} {nd:Nds} {hp0 hp:Addr->Option AO} {SA IA NA DA:Addr} {seen:List Int} {stk:List (Int×Nat)} {ws:List Addr} (h:FC t nd hp0 hp SA IA NA DA seen stk ws):NA≠SA/\NA≠IA/\NA≠DA/\DA≠SA/\DA≠IA/\∀ w∈ws,w≠SA/\w≠IA/\w≠NA/\w≠DA:=by
 refine elEA h.se fun Sf e1 e2=>?_
 refine elEEA h.di fun kv ep f1 f2=>?_
 have h1:=h.st
 have h2:=h.it
 refine ⟨fun q=>?_,fun q=>?_,fun q=>?_,fun q=>?_,fun q=>?_,fun w hw=>?_⟩
 ·rw[q,h1] at e1;cases e1
 ·rw[q,h2] at e1;cases e1
 ·rw[q,f1] at e1;cases e1
 ·rw[q,h1] at f1;cases f1
 ·rw[q,h2] at f1;cases f1
 ·refine elAEE (h.wr.mem hw) fun uu s i e=>?_
  refine ⟨fun q=>?_,fun q=>?_,fun q=>?_,fun q=>?_⟩
  ·rw[q,h1] at e;cases e
  ·rw[q,h2] at e;cases e
  ·rw[q,e1] at e;cases e
  ·rw[q,f1] at e;cases e
theorem filter_last {kv:List (Int×V)} {ks:List Int} {m:Int} (h:kv.map (·.1)=ks++[m]) (hm:m ∉ ks):(kv.filter fun p=>decide (p.1≠m)).map (·.1)=ks:=by
 have:(kv.filter fun p=>decide (p.1≠m)).map (·.1)=(kv.map (·.1)).filter fun k=>decide (k≠m):=by
  rw[List.filter_map];rfl
 rw[this,h,List.filter_append]
 have h1:ks.filter (fun k=>decide (k≠m))=ks:=List.filter_eq_self.mpr fun a ha=>by
  simp only[decide_eq_true_eq];exact fun q=>hm (q ▸ ha)
 rw[h1]
 simp
theorem FC.pop {t:SD} {nd:Nds} {hp0 hp:Addr->Option AO} {SA IA NA DA w:Addr} {seen:List Int} {m:Int} {i ep ep':Nat} {r:List (Int×Nat)} {ws:List Addr} {kv:List (Int×V)} (h:FC t nd hp0 hp SA IA NA DA seen ((m,i)::r) (w::ws)) (hk:hp DA=some (.dictI kv ep)) :
  FC t nd hp0 (updH (updH (updH (dropH hp w) SA (.list ((r.map (·.1)).reverse.map V.int))) DA (.dictI (kv.filter fun p=>decide (p.1≠m)) ep')) IA (.list (ws.reverse.map V.obj))) SA IA NA DA seen r ws:=by
 refine elAAAAA h.kinds fun k1 k2 k3 k4 k5 k6=>?_
 refine elAAA (k6 w (.head _)) fun w1 w2 w3 w4=>?_
 refine elAEE (h.wr.mem (.head _)) fun h0 s0 i0 hw=>?_
 refine elEA h.se fun Sf e1 e2=>?_
 refine elEEA h.di fun kv' ep0 q1 q2=>?_
 rw[hk] at q1;cases q1
 have n1:=h.n1
 have n2:=h.n2
 rw[List.nodup_cons] at n1
 simp only[List.map_cons,List.nodup_cons] at n2
 have f5:=h.f5
 refine ⟨fun b ao e=>?_,by walk_at "m up",by walk_at "m up",⟨Sf,by walk_at "m up",e2⟩,⟨_,ep',by walk_at "m up",filter_last (by rw[q2];simp) (by simpa using n2.1)⟩,h.wr.2.2.congr fun w' hw'=>?_,n1.2,n2.2,h.n3,h.s1,fun x hx=>h.s2 x (.tail _ hx),h.f1,h.f2,h.f3,h.f4,h.f5⟩
 ·have b1:b≠w:=fun z=>clZ h0 e z
  have b2:b≠SA:=fun z=>clZ h.f1 e z
  have b3:b≠IA:=fun z=>clZ h.f2 e z
  have b4:b≠DA:=fun z=>clZ h.f4 e z
  have:=h.old b ao e
  walk_at "m up"
 ·refine elAAA (k6 w' (.tail _ hw')) fun u1 u2 u3 u4=>?_
  have u5:w'≠w:=fun z=>n1.1 (z ▸ hw')
  rw[updH_ne u2,updH_ne u4,updH_ne u1,dropH_ne u5]
theorem FC.push {t:SD} {nd:Nds} {hp0 hp:Addr->Option AO} {SA IA NA DA w a s:Addr} {seen:List Int} {n:Int} {v:V} {ep ep':Nat} {Sf Sf':Int->Bool} {stk:List (Int×Nat)} {ws:List Addr} {kv:List (Int×V)} (h:FC t nd hp0 hp SA IA NA DA seen stk ws) (hk:hp DA=some (.dictI kv ep)) (hn:n ∉ seen) (hnd:n∈nd.map (·.1)) (ha:t.ad n=some (a,s)) (hw:hp w=none)
  (hS:∀ k,Sf' k=decide (k∈n::seen)) :
  FC t nd hp0 (updH (updH (updH (updH (updH hp NA (.setI Sf' (seen.length+1))) w (.wrap s 0)) IA (.list (ws.reverse.map V.obj++[.obj w]))) DA (.dictI (put n v kv) ep')) SA (.list ((stk.map (·.1)).reverse.map V.int++[.int n]))) SA IA NA DA (n::seen) ((n,0)::stk) (w::ws):=by
 refine elAAAAA h.kinds fun k1 k2 k3 k4 k5 k6=>?_
 refine elEA h.se fun Sf0 e1 e2=>?_
 refine elEEA h.di fun kv' ep0 q1 q2=>?_
 rw[hk] at q1;cases q1
 have w1:w≠SA:=fun z=>clA h.st hw z
 have w2:w≠IA:=fun z=>clA h.it hw z
 have w3:w≠NA:=fun z=>clA e1 hw z
 have w4:w≠DA:=fun z=>clA hk hw z
 have h0:hp0 w=none:=by
  cases q:hp0 w with
  | none=>rfl
  | some ao=>have:=h.old w ao q;rw[hw] at this;cases this
 have hws:w ∉ ws:=fun hm=>by refine elAEE (h.wr.mem hm) fun uu s' i' e=>?_;rw[hw] at e;cases e
 have hns:n ∉ stk.map (·.1):=fun hm=>hn (h.s2 n hm)
 have f5:=h.f5
 have hkn:n ∉ kv.map (·.1):=by rw[q2];simpa using hns
 refine ⟨fun b ao e=>?_,?_,?_,⟨Sf',by walk_at "m up",hS⟩,⟨_,ep',by walk_at "m up",?_⟩,⟨⟨a,s,ha,by walk_at "m up"⟩,h0,h.wr.congr fun w' hw'=>?_⟩,?_,?_,?_,fun x hx=>?_,fun x hx=>?_,h.f1,h.f2,h.f3,h.f4,h.f5⟩
 ·have b1:b≠w:=fun z=>clZ h0 e z
  have b2:b≠SA:=fun z=>clZ h.f1 e z
  have b3:b≠IA:=fun z=>clZ h.f2 e z
  have b4:b≠DA:=fun z=>clZ h.f4 e z
  have b5:b≠NA:=fun z=>clZ h.f3 e z
  have:=h.old b ao e
  walk_at "m up"
 ·rw[updH_at];simp
 ·rw[updH_ne (Ne.symm f5),updH_ne (Ne.symm k5),updH_at];simp
 ·rw[put_new hkn,List.map_append,q2];simp
 ·refine elAAA (k6 w' hw') fun u1 u2 u3 u4=>?_
  have u5:w'≠w:=fun z=>hws (z ▸ hw')
  rw[updH_ne u1,updH_ne u4,updH_ne u2,updH_ne u5,updH_ne u3]
 ·exact List.nodup_cons.mpr ⟨hws,h.n1⟩
 ·exact List.nodup_cons.mpr ⟨hns,h.n2⟩
 ·exact List.nodup_cons.mpr ⟨hn,h.n3⟩
 ·rcases List.mem_cons.mp hx with rfl | hx
  ·exact hnd
  ·exact h.s1 x hx
 ·simp only[List.map_cons,List.mem_cons] at hx
  rcases hx with rfl | hx
  ·exact .head _
  ·exact .tail _ (h.s2 x hx)
end
section
variable {d:Wd} {c:Cx} {σ:St}
noncomputable def fd183 (P:Params):FuncData:=fnData (o183 P)
noncomputable abbrev inner183:Stmt:=nthS (kidS (nthS (kidS (nthS (kidS S8_8) 5)) 1)) 1
noncomputable def locC (D SA IA NA DA:Addr) (k:Int):List (Str×V):=[(ofS "n2i",.obj D),(ofS "stack",.obj SA),(ofS "itstack",.obj IA),(ofS "seen",.obj NA),(ofS "node2stacki",.obj DA),(ofS "node",.int k)]
theorem stop_names:isSubtype (.type "StopIteration") (.type "BaseException")=pure true/\isSubtype (.type ((Manifest.find? "StopIteration").elim "type" fun x=>x.metatype)) (.type "tuple")=pure false/\isSubtype (.type "StopIteration") (.type "StopIteration")=pure true :=
 ⟨by rw[isSubtype_type];kernel_rfl,by rw[isSubtype_type];kernel_rfl,by rw[isSubtype_type];kernel_rfl⟩
theorem inner_spec {A:Around} {L:Addr} {t:SD} {S:Srt} {x:Addr} {hp0:Addr->Option AO} {SA IA NA DA:Addr} {seen:List Int} {Kin:Fl->St->Prop} (R':Rm A 0) (H:SrtR hp0 x S t) (hz:S.nds.length<=300):∀ (stk:List (Int×Nat)) (ws:List Addr) (hp':Addr->Option AO) (ll:List (Str×V)) (k:Int),
  FC t S.nds hp0 hp' SA IA NA DA seen stk ws->LocIn (lk ll) (locC t.D SA IA NA DA k) ->
  (popTo S.nds stk=none->∀ hp2 ll' k',FC t S.nds hp0 hp2 SA IA NA DA seen [] []->LocIn (lk ll') (locC t.D SA IA NA DA k')->Kin .brk ⟨lk ll',hp2⟩) ->
  (∀ n' stk',popTo S.nds stk=some (n',stk')->∀ ws' hp2 ll',FC t S.nds hp0 hp2 SA IA NA DA seen stk' ws'->LocIn (lk ll') (locC t.D SA IA NA DA n')->Kin .next ⟨lk ll',hp2⟩) ->
  WS d (cxOf A (fd183 d.w.params) L 183) inner183 ⟨lk ll,hp'⟩ Kin:=by
 intro stk ws hp' ll k FF hll hK0 hK1
 have R2:Rm (cxOf A (fd183 d.w.params) L 183).A 0->True:=fun _=>trivial
 refine WS_While Fm_cx (I:=fun m σ'=>∃ (stk2:List (Int×Nat)) (ws2:List Addr) (hp2:Addr->Option AO) (ll2:List (Str×V)) (k2:Int),m=stk2.length/\σ'=⟨lk ll2,hp2⟩/\FC t S.nds hp0 hp2 SA IA NA DA seen stk2 ws2/\LocIn (lk ll2) (locC t.D SA IA NA DA k2)/\popTo S.nds stk2=popTo S.nds stk) ?_ stk.length ⟨stk,ws,hp',ll,k,rfl,rfl,FF,hll,rfl⟩
 clear hll FF ll hp' ws k
 intro m σ' zr2
 refine elEEEE zr2 fun stk2 ws hp1 ll zz0=>?_
 refine elEAAA zz0 fun k hq5 hq6 FF zz1=>?_
 refine elA zz1 fun hll hpop=>?_
 try clear zr2
 subst hq5
 subst hq6
 refine Ev.sub (le_loc hll) ?_
 unfold locC
 refine elAA FF.len fun q1 q2 q3=>?_
 walk_at "w"
 refine tru_list FF.st (by simp;exact Y201 hz q2) ?_
 cases stk2 with
 | nil =>
  simp only[List.map_nil,List.reverse_nil,List.isEmpty_nil,Bool.not_true,Bool.false_eq_true,if_false]
  walk_at "w"
  refine WS_Break ?_
  walk_at "w"
  have hws:ws=[]:=by have:=FF.wr.len;exact List.eq_nil_of_length_eq_zero this.symm
  subst hws
  exact hK0 hpop.symm hp1 _ k FF ⟨by walk_at "l",by walk_at "l",by walk_at "l",by walk_at "l",by walk_at "l",by walk_at "l",trivial⟩
 | cons p r =>
  obtain⟨m,i⟩:=p
  cases ws with
  | nil=>exact FF.wr.elim
  | cons w ws =>
   rw[show (!(List.map V.int (List.map (fun x=>x.fst) ((m,i)::r)).reverse).isEmpty)=true by simp]
   try simp only[if_true]
   refine elEEA FF.wr.1 fun a s a1 a2=>?_
   refine elEEAA (H.node m a s a1) fun kk sc b1 b2 b3=>?_
   have hsc:scO S.nds m=sc:=by unfold scO;rw[b1]
   have B3:=FF.old _ _ b3
   have IT:=FF.it
   rw[List.reverse_cons,List.map_append,List.map_singleton] at IT
   refine WB_cons ?_
   refine WS_TryExcept (T:="StopIteration") Fm_cx stop_names.1 stop_names.2.1 stop_names.2.2 (reads_bltn (by kernel_rfl!) (by kernel_rfl!) (by decide +kernel) (by kernel_rfl!) (by kernel_rfl!)) ?_
   refine WB_cons ?_
   walk_at "w"
   refine sub_listN IT (by simp only[List.length_cons] at q3;simp;exact Y199 hz q3) ?_
   try dsimp only
   cases hi:sc[i]? with
   | some n' =>
    refine WC_next (v:=.int n') a2 B3 (by rw[List.getElem?_map,hi];rfl) ?_
    walk_at "w"
    refine WS_Break ?_
    walk_at "w"
    refine hK1 n' ((m,i+1)::r) ?_ (w::ws) _ _ (FF.next a1) ?_
    ·rw[<- hpop];unfold popTo;rw[hsc,hi]
    ·exact⟨by walk_at "l",by walk_at "l",by walk_at "l",by walk_at "l",by walk_at "l",by walk_at "l",trivial⟩
   | none =>
    refine WC_stop R'.handled a2 B3 (by rw[List.getElem?_map,hi];rfl) ?_
    refine ⟨rfl,fun B9=>?_⟩
    refine elAAAAA FF.kinds fun k1 k2 k3 k4 k5 k6=>?_
    refine elAAA (k6 w (.head _)) fun w1 w2 w3 w4=>?_
    refine elEEA FF.di fun kv ed f1 f2=>?_
    have ST:=FF.st
    rw[List.map_cons,List.reverse_cons,List.map_append,List.map_singleton] at ST
    have n2:=FF.n2
    simp only[List.map_cons,List.nodup_cons] at n2
    simp only[List.length_cons] at q2 q3
    have f5:=FF.f5
    refine WB_cons ?_
    refine WS_Del ?_
    walk_at "w"
    refine getM_list (vs:=(r.map (·.1)).reverse.map V.int++[V.int m]) (by walk_at "m up") PySem.F.slot_list_pop PySem.F.type_list_pop ?_
    walk_at "w"
    refine call_lpop (vs:=(r.map (·.1)).reverse.map V.int) (v:=.int m) (by walk_at "m up") (by simp;exact Y199 hz q2) ?_
    walk_at "w"
    have hkl:kv.length<=1000:=by have:=congrArg List.length f2;simp at this;exact Y225 hz q2 this
    refine del_dictI (kvs:=kv) (ep:=ed) (by walk_at "m up") hkl ?_ fun ep'=>?_
    ·cases q:look m kv with
     | some _=>rfl
     | none=>exact absurd (by rw[f2];simp) (look_none_map.mp q)
    walk_at "w"
    refine getM_list (vs:=ws.reverse.map V.obj++[V.obj w]) (by walk_at "m up") PySem.F.slot_list_pop PySem.F.type_list_pop ?_
    walk_at "w"
    refine call_lpop (vs:=ws.reverse.map V.obj) (v:=.obj w) (by walk_at "m up") (by simp;exact Y199 hz q3) ?_
    walk_at "w"
    refine ⟨r.length,by simp,r,ws,_,_,k,rfl,rfl,FF.pop f1,⟨by walk_at "l",by walk_at "l",by walk_at "l",by walk_at "l",by walk_at "l",by walk_at "l",trivial⟩,?_⟩
    rw[<- hpop]
    conv=>rhs;unfold popTo
    rw[hsc,hi]
end
section
variable {d:Wd} {c:Cx} {σ:St}
theorem ok183 (d:Wd):FnOk d 183 (fd183 d.w.params) (kidS S8_8) [ofS "self"]:=⟨⟨o183 d.w.params,by kernel_rfl!,by kernel_rfl!⟩,by kernel_rfl!,by kernel_rfl!,by kernel_rfl!,fun L=>by kernel_rfl!,by kernel_rfl!,by kernel_rfl!,by kernel_rfl!,by kernel_rfl!,by kernel_rfl!,by kernel_rfl!⟩
theorem cycle_spec {x:Addr} {S:Srt} {t:SD} {fuel:Nat} {fin:List Int} {K:V->St->Prop} (R:Rm c.A 1) (H:SrtR σ.hp x S t) (hz:S.nds.length<=300) (hrun:fcAll S.nds fuel (S.nds.map (·.1)) []=some fin)
  (h:∀ hp',(∀ b ao,σ.hp b=some ao->hp' b=some ao)->K .none ⟨σ.loc,hp'⟩):CallV d c (.ref 183) [.obj x] [] σ K:=by
 refine CallV_ok (bs:=[(ofS "self",.obj x)]) (ok183 d) R.room (bind1 fun u=>rfl) (fun L=>?_)
 obtain R':Rm (cxOf c.A (fd183 d.w.params) L 183).A 0:=R.in
 refine elEE H.dict fun kvs ep zz32=>?_;obtain d1:=zz32.1;obtain d2:=zz32.2.1;obtain d3:=zz32.2.2
 refine WB_cons ?_
 walk_at "w"
 refine att_n2i H.obj ?_
 walk_at "w"
 refine W_ListM ?_
 walk_at "w"
 refine ⟨by simp,fun SA hSA=>?_⟩
 walk_at "w"
 refine W_ListM ?_
 walk_at "w"
 refine ⟨by simp,fun IA hIA=>?_⟩
 walk_at "w"
 refine call_set0 fun NA hNA=>?_
 walk_at "w"
 refine W_DictI fun DA eD hDA=>?_
 walk_at "w"
 obtain i1:=(updH_none hIA).1;obtain hIA':=(updH_none hIA).2
 obtain n1:=(updH_none hNA).1;obtain hNA1:=(updH_none hNA).2
 obtain n2:=(updH_none hNA1).1;obtain hNA2:=(updH_none hNA1).2
 obtain m1:=(updH_none hDA).1;obtain hDA1:=(updH_none hDA).2
 obtain m2:=(updH_none hDA1).1;obtain hDA2:=(updH_none hDA1).2
 obtain m3:=(updH_none hDA2).1;obtain hDA3:=(updH_none hDA2).2
 have F0:FC t S.nds σ.hp (updH (updH (updH (updH σ.hp SA (.list [])) IA (.list [])) NA (.setI (fun _=>false) 0)) DA (.dictI [] eD)) SA IA NA DA [] [] []:=by
  refine ⟨fun b ao e=>?_,by walk_at "m up",by walk_at "m up",⟨_,by walk_at "m up",fun k=>rfl⟩,⟨_,eD,by walk_at "m up",rfl⟩,trivial,.nil,.nil,.nil,(fun _ h=>nomatch h),(fun _ h=>nomatch h),hSA,hIA',hNA2,hDA3,Ne.symm i1⟩
  obtain b1:b≠SA:=fun z=>by simp only[z] at e;rw[show σ.hp SA=none from hSA] at e;cases e
  obtain b2:b≠IA:=fun z=>clZ hIA' e z
  obtain b3:b≠NA:=fun z=>clZ hNA2 e z
  obtain b4:b≠DA:=fun z=>clZ hDA3 e z
  walk_at "m up"
 refine WS_For (fun _ _ q=>q) R'.handled ?_
 walk_at "w"
 obtain hD1:=F0.old _ _ d1
 refine ⟨_,_,iter_dictI hD1,?_⟩
 simp only[show kvs.map (fun kv=>V.int kv.1)=(S.nds.map (·.1)).map V.int by simp only[<- d2,List.map_map];rfl]
 refine (fun G:(∀ (ns:List Int) (seen:List Int) (hp':Addr->Option AO) (ll:List (Str×V)),(∀ n∈ns,n∈S.nds.map (·.1))->FC t S.nds σ.hp hp' SA IA NA DA seen [] []->fcAll S.nds fuel ns seen=some fin->LocIn (lk ll) [(ofS "n2i",.obj t.D),(ofS "stack",.obj SA),(ofS "itstack",.obj IA),(ofS "seen",.obj NA),(ofS "node2stacki",.obj DA)] ->
   ForRun d _ _ _ _ _ _ (ns.map V.int) ⟨lk ll,hp'⟩)=>G _ [] _ _ (fun _ h=>h) F0 hrun ⟨by walk_at "l",by walk_at "l",by walk_at "l",by walk_at "l",by walk_at "l",trivial⟩) ?_
 intro ns
 induction ns with
 | nil =>
  intro seen hp' ll _ FF _ hll
  refine (fun G:WB d _ _ ⟨lk [],hp'⟩ _=>Ev.sub (le_loc (l':=[]) trivial) G) ?_
  walk_at "w"
  exact h hp' FF.old
 | cons n ns ih =>
  intro seen hp' ll hns FF hr hll
  refine (fun G:ForRun d _ _ _ _ _ _ _ ⟨lk [(ofS "n2i",.obj t.D),(ofS "stack",.obj SA),(ofS "itstack",.obj IA),(ofS "seen",.obj NA),(ofS "node2stacki",.obj DA)],hp'⟩=>ForRun.sub (le_loc hll) G) ?_
  refine (?_:Asg d _ _ _ _ _)
  refine elEA FF.se fun Sf e1 e2=>?_
  walk_at "w"
  refine cmp_inSet e1 ?_
  walk_at "w"
  rw[e2 n]
  unfold fcAll at hr
  by_cases hn:n∈seen
  ·rw[if_pos hn] at hr
   rw[decide_eq_true hn]
   try simp only[if_true]
   walk_at "w"
   refine WS_Continue ?_
   walk_at "w"
   refine ⟨FF.old _ _ d1,ih seen _ _ (fun m hm=>hns m (.tail _ hm)) FF hr ?_⟩
   exact⟨by walk_at "l",by walk_at "l",by walk_at "l",by walk_at "l",by walk_at "l",trivial⟩
  ·rw[if_neg hn] at hr
   rw[decide_eq_false hn]
   try simp only[Bool.false_eq_true,if_false]
   refine elEA (Option.bind_eq_some_iff.mp hr) fun seen2 hr1 hr2=>?_
   walk_at "w"
   refine WS_While Fm_cx (I:=fun m σ'=>∃ (f:Nat) (seen:List Int) (stk:List (Int×Nat)) (ws:List Addr) (n:Int) (hp':Addr->Option AO) (ll:List (Str×V)),m=f/\σ'=⟨lk ll,hp'⟩/\FC t S.nds σ.hp hp' SA IA NA DA seen stk ws/\fcRun S.nds f seen stk n=some seen2 /\
    LocIn (lk ll) [(ofS "n2i",.obj t.D),(ofS "stack",.obj SA),(ofS "itstack",.obj IA),(ofS "seen",.obj NA),(ofS "node2stacki",.obj DA),(ofS "node",.int n)]) ?_ fuel ⟨fuel,seen,[],[],n,hp',_,rfl,rfl,FF,hr1,⟨by walk_at "l",by walk_at "l",by walk_at "l",by walk_at "l",by walk_at "l",by walk_at "l",trivial⟩⟩
   obtain hns':∀ m∈ns,m∈S.nds.map (·.1):=fun m hm=>hns m (.tail _ hm)
   clear hr1 e1 e2 Sf FF hn hll hr hns
   clear ll hp' seen n
   intro m σ' zr2
   refine elEEEE zr2 fun f seen stk ws zz0=>?_
   refine elEEEAAAA zz0 fun n hp1 ll hq7 hq8 FF hrun1 hll=>?_
   try clear zr2
   subst hq7
   subst hq8
   cases m with
   | zero=>cases hrun1
   | succ f =>
    refine Ev.sub (le_loc hll) ?_
    refine elEA FF.se fun Sf e1 e2=>?_
    refine elEE FF.di fun kv ed zz116=>?_;obtain f1:=zz116.1;obtain f2:=zz116.2
    walk_at "w"
    try simp only[if_true]
    walk_at "w"
    refine cmp_inSet e1 ?_
    walk_at "w"
    simp only[e2 n]
    obtain KB:∀ (seen':List Int) (stk':List (Int×Nat)) (ws':List Addr) (hp':Addr->Option AO) (ll':List (Str×V)) (k:Int),FC t S.nds σ.hp hp' SA IA NA DA seen' stk' ws' ->
      (match popTo S.nds stk' with | none=>some seen' | some (n',stk2)=>fcRun S.nds f seen' stk2 n')=some seen2->LocIn (lk ll') (locC t.D SA IA NA DA k)->True:=fun _ _ _ _ _ _ _ _ _=>trivial
    ·unfold fcRun at hrun1
     by_cases hn:n∈seen
     ·rw[if_pos hn] at hrun1
      rw[decide_eq_true hn]
      try simp only[if_true]
      walk_at "w"
      refine cmp_inI f1 ?_
      walk_at "w"
      by_cases hs:n∈stk.map (·.1)
      ·rw[if_pos hs] at hrun1;cases hrun1
      ·rw[if_neg hs] at hrun1
       rw[look_none_map.mpr (by rw[f2];simpa using hs)]
       try simp only[Option.isSome_none,Bool.false_eq_true,if_false]
       walk_at "w"
       refine inner_spec (S:=S) (A:=c.A) (R.le (by decide)) H hz stk ws hp1 _ n FF ?_ ?_ ?_
       ·exact⟨by walk_at "l",by walk_at "l",by walk_at "l",by walk_at "l",by walk_at "l",by walk_at "l",trivial⟩
       ·intro e hp2 ll2 k2 F2 L2
        simp only[e] at hrun1;cases hrun1
        refine WB_nil ⟨F2.old _ _ d1,ih seen2 _ _ hns' F2 hr2 ⟨L2.1,L2.2.1,L2.2.2.1,L2.2.2.2.1,L2.2.2.2.2.1,trivial⟩⟩
       ·intro n2 stk2 e ws2 hp2 ll2 F2 L2
        simp only[e] at hrun1
        refine WB_nil ⟨f,Nat.lt_succ_self f,f,seen,stk2,ws2,n2,hp2,ll2,rfl,rfl,F2,hrun1,L2⟩
     ·rw[if_neg hn] at hrun1
      rw[decide_eq_false hn]
      try simp only[Bool.false_eq_true,if_false]
      by_cases hnd:(look n S.nds).isSome=true
      case neg=>rw[if_neg hnd] at hrun1;cases hrun1
      rw[if_pos hnd] at hrun1
      obtain k1:=FF.kinds.1;obtain k2:=FF.kinds.2.1;obtain k3:=FF.kinds.2.2.1;obtain k4:=FF.kinds.2.2.2.1;obtain k5:=FF.kinds.2.2.2.2.1;obtain k6:=FF.kinds.2.2.2.2.2
      refine elEEEE (H.has hnd) fun a s kk sc zz154=>?_;obtain a1:=zz154.1;obtain a2:=zz154.2.1;obtain a3:=zz154.2.2.1;obtain a4:=zz154.2.2.2
      refine elEE (H.dlook a1) fun kvD epD zz155=>?_;obtain g1:=zz155.1;obtain g2:=zz155.2
      obtain G1:=FF.old _ _ g1
      obtain A3:=FF.old _ _ a3
      obtain A4:=FF.old _ _ a4
      obtain l1:=FF.len.1;obtain l2:=FF.len.2.1;obtain l3:=FF.len.2.2
      obtain hnk:n∈S.nds.map (·.1):=by
       refine Classical.byContradiction fun q=>?_
       simp only[look_none_map.mpr q] at hnd;cases hnd
      obtain NAne:∀ {b ao},hp1 b=some ao->(∀ Sf n,ao ≠ .setI Sf n)->b≠NA:=fun eb q z=>by simp only[z,e1] at eb;cases eb;exact q _ _ rfl
      walk_at "w"
      refine getM_setI e1 PySem.F.slot_set_add PySem.F.type_set_add ?_
      walk_at "w"
      refine call_sadd e1 (Y201 hz l1) ?_
      walk_at "w"
      obtain I1:=FF.it
      obtain S1:=FF.st
      refine getM_list (vs:=ws.reverse.map V.obj) (by walk_at "m up") PySem.F.slot_list_append PySem.F.type_list_append ?_
      walk_at "w"
      refine sub_dictI (kvs:=kvD) (ep:=epD) ((updH_ne (NAne G1 fun _ _=>AO.noConfusion)).trans G1) g2 ?_
      refine att_su (a:=.int n) (b:=.int kk) (e:=.obj s) ((updH_ne (NAne A3 fun _ _=>AO.noConfusion)).trans A3) rfl ?_
      walk_at "w"
      refine call_iterL (vs:=sc.map V.int) ((updH_ne (NAne A4 fun _ _=>AO.noConfusion)).trans A4) fun it hit=>?_
      refine att_next updH_at fun w hwit hw=>?_
      simp only[dropH_upd hit]
      obtain hw1:updH hp1 NA (.setI (fun k'=>Sf k'||decide (k'=n)) (if Sf n=true then seen.length else seen.length+1)) w=none:=by
       simp only[<- hw];exact (updH_ne hwit).symm
      obtain hwNA:=(updH_none hw1).1;obtain hw0:=(updH_none hw1).2
      obtain W1:w≠SA:=fun z=>clA S1 hw0 z
      obtain W2:w≠IA:=fun z=>clA I1 hw0 z
      obtain W4:w≠DA:=fun z=>clA f1 hw0 z
      obtain f5:=FF.f5
      walk_at "w"
      refine call_append (vs:=ws.reverse.map V.obj) (by walk_at "m up") (by simp;exact Y201 hz l3) ?_
      walk_at "w"
      refine call_len (vs:=(stk.map (·.1)).reverse.map V.int) (lstOf_obj (by walk_at "m up")) (by simp;exact Y201 hz l2) ?_
      walk_at "w"
      obtain hkl:kv.length<=1000:=by obtain this:=congrArg List.length f2;simp at this;exact Y226 hz l2 this
      refine set_dictI (kvs:=kv) (ep:=ed) (by walk_at "m up") hkl fun ep'=>?_
      walk_at "w"
      refine getM_list (vs:=(stk.map (·.1)).reverse.map V.int) (by walk_at "m up") PySem.F.slot_list_append PySem.F.type_list_append ?_
      walk_at "w"
      refine call_append (vs:=(stk.map (·.1)).reverse.map V.int) (by walk_at "m up") (by simp;exact Y201 hz l2) ?_
      walk_at "w"
      obtain hSn:Sf n=false:=by simp only[e2 n];exact decide_eq_false hn
      rw[if_neg (by simp only[hSn];decide)]
      obtain FP:=FF.push (v:=.int ((stk.map (·.1)).reverse.map V.int).length) (ep':=ep') (Sf:=Sf) f1 hn hnk a1 hw0 (Sf':=fun k'=>Sf k'||decide (k'=n)) (fun k=>by
       rw[e2 k,<- Bool.decide_or,decide_eq_decide,List.mem_cons,or_comm])
      refine inner_spec (S:=S) (A:=c.A) (R.le (by decide)) H hz ((n,0)::stk) (w::ws) _ _ n FP ?_ ?_ ?_
      ·exact⟨by walk_at "l",by walk_at "l",by walk_at "l",by walk_at "l",by walk_at "l",by walk_at "l",trivial⟩
      ·intro e hp2 ll2 k2 F2 L2
       simp only[e] at hrun1;cases hrun1
       refine WB_nil ⟨F2.old _ _ d1,ih (n::seen) _ _ hns' F2 hr2 ⟨L2.1,L2.2.1,L2.2.2.1,L2.2.2.2.1,L2.2.2.2.2.1,trivial⟩⟩
      ·intro n2 stk2 e ws2 hp2 ll2 F2 L2
       simp only[e] at hrun1
       refine WB_nil ⟨f,Nat.lt_succ_self f,f,n::seen,stk2,ws2,n2,hp2,ll2,rfl,rfl,F2,hrun1,L2⟩
end
section
variable {d:Wd} {c:Cx} {σ:St}
theorem SrtR.mono {hp hp':Addr->Option AO} {x:Addr} {S:Srt} {t:SD} (H:SrtR hp x S t) (k:∀ b ao,hp b=some ao->hp' b=some ao):SrtR hp' x S t:=by
 refine elEEAA H.dict fun kvs ep d1 d2 d3=>?_
 refine ⟨k _ _ H.obj,⟨kvs,ep,k _ _ d1,d2,d3⟩,H.none_,fun n a s e=>?_,H.inj,H.rdyN,fun l e=>?_⟩
 ·refine elEEAA (H.node n a s e) fun kk sc q1 q2 q3=>?_
  exact⟨kk,sc,q1,k _ _ q2,k _ _ q3⟩
 ·refine elEAA (H.rdyS l e) fun R r1 r2 r3=>?_
  exact⟨R,r1,k _ _ r2,r3⟩
theorem KeepS.mono {hp hp':Addr->Option AO} {x:Addr} {t:SD} (k:∀ b ao,hp b=some ao->hp' b=some ao):KeepS x t t hp hp':=⟨fun b ao e _=>k b ao e,fun _ h=>.inl h⟩
noncomputable def zeroK (S:Srt) (n:Int):Bool:=match look n S.nds with
 | some v=>decide (v.1=0)
 | none=>false
noncomputable def rdyL (S:Srt):List Int:=(S.nds.map (·.1)).filter (zeroK S)
noncomputable def prepF (S:Srt):Srt:={ S with rdy:=some (rdyL S) }
theorem look_mem_nd {α:Type} {n:Int} {v:α} {l:List (Int×α)} (hn:(l.map (·.1)).Nodup) (h:(n,v)∈l):look n l=some v:=by
 induction l with
 | nil=>cases h
 | cons kv r ih =>
  simp only[List.map_cons,List.nodup_cons] at hn
  unfold look
  rcases List.mem_cons.mp h with q | q
  ·subst q;rw[if_pos rfl]
  ·rw[if_neg (fun z=>hn.1 (by rw[z];exact List.mem_map_of_mem q))]
   exact ih hn.2 q
noncomputable def fd148 (P:Params):FuncData:=fnData (o148 P)
theorem ok148 (d:Wd):FnOk d 148 (fd148 d.w.params) (kidS S8_3) [ofS "self"]:=⟨⟨o148 d.w.params,by kernel_rfl!,by kernel_rfl!⟩,by kernel_rfl!,by kernel_rfl!,by kernel_rfl!,fun L=>by kernel_rfl!,by kernel_rfl!,by kernel_rfl!,by kernel_rfl!,by kernel_rfl!,by kernel_rfl!,by kernel_rfl!⟩
theorem prep_spec {x:Addr} {S:Srt} {t:SD} {fuel:Nat} {fin:List Int} {K:V->St->Prop} (R:Rm c.A 2) (H:SrtR σ.hp x S t) (hr:S.rdy=none) (hnd:(S.nds.map (·.1)).Nodup) (hz:S.nds.length<=300) (hrun:fcAll S.nds fuel (S.nds.map (·.1)) []=some fin)
  (h:∀ hp' t',SrtR hp' x (prepF S) t'->KeepS x t t' σ.hp hp'->K .none ⟨σ.loc,hp'⟩):CallV d c (.ref 148) [.obj x] [] σ K:=by
 refine CallV_ok (bs:=[(ofS "self",.obj x)]) (ok148 d) R.room (bind1 fun u=>rfl) (fun L=>?_)
 have R':Rm (cxOf c.A (fd148 d.w.params) L 148).A 1:=R.in
 refine elEEAA H.dict fun kvs ep d1 d2 d3=>?_
 have hlen:kvs.length=S.nds.length:=by have:=congrArg List.length d2;simpa using this
 have hv:=H.rdyN hr
 refine WB_cons ?_
 walk_at "w"
 refine att_rdy H.obj (by rw[hv];rfl) ?_
 walk_at "w"
 rw[hv]
 refine cmp_isNotNone (b:=true) rfl ?_
 walk_at "w"
 try simp only[Bool.not_true,Bool.false_eq_true,if_false]
 walk_at "w"
 refine W_Cmp2 false (l:=[]) (by kernel_rfl!) R'.handled ?_
 walk_at "w"
 refine att_n2i H.obj ?_
 refine getM_dictI d1 PySem.F.slot_dict_values PySem.F.type_dict_values ?_
 walk_at "w"
 refine call_values d1 ?_
 refine ⟨_,_,iter_vals d1,by rw[List.length_map];exact Y200 hz hlen,trivial,fun C=>?_⟩
 have node:∀ kv∈kvs,∃ a s k sc,kv.2 = .obj a/\look kv.1 S.nds=some (k,sc)/\σ.hp a=some (slotS kv.1 k s):=fun kv hkv=>by
  have e:=look_mem_nd (n:=kv.1) (v:=kv.2) (by rw[d2];exact hnd) hkv
  rw[d3] at e
  refine elEA (Option.map_eq_some_iff.mp e) fun p q1 q2=>?_
  obtain⟨a,s⟩:=p
  refine elEEAA (H.node kv.1 a s q1) fun k sc z1 z2 z3=>?_
  exact⟨a,s,k,sc,q2.symm,z1,z2⟩
 refine comp_pure (f:=fun kv:Int×V=>kv.2) (e:=fun kv:Int×V=>.int kv.1) (p:=fun kv=>zeroK S kv.1) (fun v=>[(ofS "i",v)]) (by kernel_rfl!) (fun v=>by walk_at "p") (fun u v=>by walk_at "p") d1 kvs (fun kv hkv=>?_) (fun kv hkv _=>?_) _ ?_
 ·refine elEEEEAA (node kv hkv) fun a s k sc q1 q2 q3=>?_
  show WT d _ _ _ _
  rw[q1]
  walk_at "w"
  refine att_np (a:=.int kv.1) (b:=.int k) (e:=.obj s) q3 rfl ?_
  walk_at "w"
  exact⟨by unfold zeroK;rw[q2],rfl⟩
 ·refine elEEEEAA (node kv hkv) fun a s k sc q1 q2 q3=>?_
  rw[q1]
  walk_at "w"
  refine att_nd (a:=.int kv.1) (b:=.int k) (e:=.obj s) q3 rfl ?_
  exact⟨rfl,rfl⟩
 ·have eL:([]:List V)++List.map (fun kv:Int×V=>V.int kv.1) (kvs.filter fun kv=>zeroK S kv.1)=(rdyL S).map V.int:=by
   unfold rdyL
   rw[<- d2,List.nil_append,List.filter_map,List.map_map]
   rfl
  show compK false _ _ _ _
  rw[eL]
  refine fun D hD=>?_
  walk_at "w"
  have hxD:x≠D:=fun q=>clA H.obj hD q.symm
  refine set_rdy (S:=S) (t:=t) ((updH_ne hxD).trans H.obj) ?_
  walk_at "w"
  have H2:SrtR (updH (updH σ.hp D (.list ((rdyL S).map V.int))) x (instS { t with rv:=.obj D } S)) x (prepF S) { t with rv:=.obj D }:=by
   have ne:∀ {b ao},σ.hp b=some ao->(∀ fs,ao ≠ .inst 193 fs)->updH (updH σ.hp D (.list ((rdyL S).map V.int))) x (instS { t with rv:=.obj D } S) b=some ao:=fun {b ao} eb q =>
    (updH_ne fun z=>by rw[z,H.obj] at eb;cases eb;exact q _ rfl).trans ((updH_ne fun z=>clZ hD eb z).trans eb)
   refine ⟨updH_at,⟨kvs,ep,ne d1 fun _=>AO.noConfusion,d2,d3⟩,H.none_,fun m a s em=>?_,H.inj,(fun e=>nomatch e),fun l e=>?_⟩
   ·refine elEEAA (H.node m a s em) fun k sc q1 q2 q3=>?_
    exact⟨k,sc,q1,ne q2 fun _=>AO.noConfusion,ne q3 fun _=>AO.noConfusion⟩
   ·cases e
    refine ⟨D,rfl,(updH_ne (Ne.symm hxD)).trans updH_at,fun m a s em z=>?_⟩
    refine elEEAA (H.node m a s em) fun k sc q1 q2 q3=>?_
    rw[z,hD] at q3;cases q3
  have K2:KeepS x t { t with rv:=.obj D } σ.hp (updH (updH σ.hp D (.list ((rdyL S).map V.int))) x (instS { t with rv:=.obj D } S)):=by
   refine ⟨fun b ao eb hf=>(updH_ne fun z=>hf (.inl z)).trans ((updH_ne fun z=>clZ hD eb z).trans eb),fun b hb=>?_⟩
   rcases hb with q | q | q | q
   ·exact .inl (.inl q)
   ·exact .inl (.inr (.inl q))
   ·cases q;exact .inr hD
   ·exact .inl (.inr (.inr (.inr q)))
  refine getM_S (name:=ofS "_find_cycle") (f:=183) H2.obj (by walk_at "m nolook") (by kernel_rfl!) (by kernel_rfl!) ?_
  walk_at "w"
  refine cycle_spec (S:=prepF S) R' H2 hz hrun fun hp2 k2=>?_
  walk_at "w"
  try simp only[Bool.false_eq_true,if_false]
  walk_at "w"
  exact h hp2 _ (H2.mono k2) (K2.trans (KeepS.mono k2))
end
section
variable {d:Wd} {c:Cx} {σ:St}
noncomputable def sld:Nat->List Key->List Key->List Key×List Key
 | 0,xs,ys=>(xs,ys)
 | _+1,[],ys=>([],ys)
 | _+1,x::xs,[]=>(x::xs,[])
 | n+1,x::xs,y::ys=>if kLt x y=true then (x::(sld n xs (y::ys)).1,(sld n xs (y::ys)).2)
  else if kLt y x=true then ((sld n (x::xs) ys).1,y::(sld n (x::xs) ys).2)
  else sld n xs ys
noncomputable def Asc (l:List Key):Prop:=l.Pairwise fun a b=>kLt a b=true
theorem kLt_irr:∀ k,kLt k k=false
 | []=>rfl
 | a::k=>by unfold kLt;rw[if_pos rfl];exact kLt_irr k
theorem kLt_eq:∀ {a b:Key},kLt a b=false->kLt b a=false->a=b
 | [],[],_,_=>rfl
 | [],_::_,h,_=>by cases h
 | _::_,[],_,h=>by cases h
 | a::k,b::l,h1,h2=>by
  unfold kLt at h1 h2
  by_cases e:a=b
  ·subst e
   rw[if_pos rfl] at h1 h2
   rw[kLt_eq h1 h2]
  ·rw[if_neg e] at h1
   rw[if_neg (Ne.symm e)] at h2
   simp only[decide_eq_false_iff_not] at h1 h2
   exact absurd (Fin.le_antisymm (Fin.not_lt.mp h2) (Fin.not_lt.mp h1)) e
theorem Asc.ne {x y:Key} {r:List Key} (h:Asc (x::y::r)):decide (y=x)=false:=by
 unfold Asc at h
 rw[List.pairwise_cons] at h
 have:=h.1 y (.head _)
 exact decide_eq_false fun q=>by simp only[q,kLt_irr] at this;cases this
theorem cmp_eqU {a b:Key} {K:V->St->Prop} (hu:c.A.units+3000 < cLine) (h:K (.bool (decide (a=b))) σ):Cmp d c .Eq (kV a) (kV b) σ K:=fun g s x y r rx ry=>by
 refine elAE (data_reads rx (kV_data a)) fun l1 as z1=>?_
 refine elAE (data_reads ry (kV_data b)) fun l2 bs z2=>?_
 refine SeqAt.compareEq_reads z1 z2 l1 l2 (by obtain this:=depth_kD a;obtain this:=Nat.min_le_left (kD a).depth (kD b).depth;omega) (.here r (b:=V.bool (PyData.eqv (kD a) (kD b))) (.raw _) ?_)
 rw[eqv_kD];exact h
noncomputable def fd204 (P:Params):FuncData:=fnData (o204 P)
theorem ok204 (d:Wd):FnOk d 204 (fd204 d.w.params) (kidS S10) [ofS "expected",ofS "actual"]:=⟨⟨o204 d.w.params,by kernel_rfl!,by kernel_rfl!⟩,by kernel_rfl!,by kernel_rfl!,by kernel_rfl!,fun L=>by kernel_rfl!,by kernel_rfl!,by kernel_rfl!,by kernel_rfl!,by kernel_rfl!,by kernel_rfl!,by kernel_rfl!⟩
noncomputable def handB:Stmt->List Stmt
 | .Try _ (.ExceptHandler _ _ b _::_) _ _ _=>b
 | _=>[]
noncomputable abbrev try204:Stmt:=nthS (kidS (nthS (kidS S10) 3)) 0
noncomputable def locD (E A:List Key) (i j:Int) (MA UA:Addr):List (Str×V):=[(ofS "expected",ksV E),(ofS "actual",ksV A),(ofS "i",.int i),(ofS "j",.int j),(ofS "missing",.obj MA),(ofS "unexpected",.obj UA)]
structure DS (hp0 hp:Addr->Option AO) (MA UA:Addr) (M U:List Key):Prop where
 old:∀ b ao,hp0 b=some ao->hp b=some ao
 m:hp MA=some (.list (M.map kV))
 u:hp UA=some (.list (U.map kV))
 f1:hp0 MA=none
 f2:hp0 UA=none
 ne:MA≠UA
theorem DS.app {hp0 hp:Addr->Option AO} {MA UA:Addr} {M U M':List Key} (h:DS hp0 hp MA UA M U):DS hp0 (updH hp MA (.list ((M++M').map kV))) MA UA (M++M') U :=
 ⟨fun b ao e=>(updH_ne fun z=>clZ h.f1 e z).trans (h.old b ao e),updH_at,(updH_ne (Ne.symm h.ne)).trans h.u,h.f1,h.f2,h.ne⟩
theorem DS.apu {hp0 hp:Addr->Option AO} {MA UA:Addr} {M U U':List Key} (h:DS hp0 hp MA UA M U):DS hp0 (updH hp UA (.list ((U++U').map kV))) MA UA M (U++U') :=
 ⟨fun b ao e=>(updH_ne fun z=>clZ h.f2 e z).trans (h.old b ao e),(updH_ne h.ne).trans h.m,updH_at,h.f1,h.f2,h.ne⟩
theorem DS.fresh {hp0 hp:Addr->Option AO} {MA UA e:Addr} {M U:List Key} {ao:AO} (h:DS hp0 hp MA UA M U) (he:hp e=none):DS hp0 (updH hp e ao) MA UA M U:=by
 have ne:∀ {b o},hp b=some o->updH hp e ao b=some o:=fun eb=>(updH_ne fun z=>clZ he eb z).trans eb
 exact⟨fun b o q=>ne (h.old b o q),ne h.m,ne h.u,h.f1,h.f2,h.ne⟩
theorem DS.eq {hp0 hp hp':Addr->Option AO} {MA UA:Addr} {M U:List Key} (h:DS hp0 hp MA UA M U) (he:hp'=hp):DS hp0 hp' MA UA M U:=by rw[he];exact h
theorem pick_from {α:Type} (xs:List α) (n:Nat) (h:n<=xs.length):pick xs (some (n:Int)) none=xs.drop n:=by
 unfold pick
 simp only[Option.elim_some,Option.elim_none,clipAt_nat,Nat.min_eq_left h]
 rw[List.take_of_length_le (by rw[List.length_drop];exact Y149)]
theorem hand_spec {A0:Around} {L B9:Addr} {E A M U:List Key} {i j:Nat} {hp0 hp:Addr->Option AO} {MA UA:Addr} {ll:List (Str×V)} {K':Fl->St->Prop} (H:DS hp0 hp MA UA M U) (hl:LocIn (lk ll) (locD E A i j MA UA)) (hi:i<=E.length) (hj:j<=A.length) (hE:E.length<=100) (hA:A.length<=100) (hM:M.length<=200) (hU:U.length<=200)
  (h:∀ hp2 ll2,DS hp0 hp2 MA UA (M++E.drop i) (U++A.drop j)->LocIn (lk ll2) [(ofS "missing",.obj MA),(ofS "unexpected",.obj UA)]->K' .brk ⟨lk ll2,hp2⟩) :
  WB d ⟨(cxOf A0 (fd204 d.w.params) L 204).A.mark (some (.ref B9)),(cxOf A0 (fd204 d.w.params) L 204).env,fun _ _=>False⟩ (handB try204) ⟨lk ll,hp⟩ K':=by
 refine Ev.sub (le_loc hl) ?_
 unfold locD
 refine WB_cons ?_
 walk_at "w"
 refine getM_list H.m PySem.F.slot_list_extend PySem.F.type_list_extend ?_
 walk_at "w"
 refine sub_slice (by simp;exact Y80 hE) ?_
 rw[pick_from _ _ (by simpa using hi),<- List.map_drop]
 walk_at "w"
 refine call_extend (vs:=M.map kV) (ws:=(E.drop i).map kV) H.m rfl (by simp;exact Y96 hM) (by simp;exact Y161 hE) ?_
 rw[<- List.map_append]
 have H2:=H.app (M':=E.drop i)
 walk_at "w"
 refine getM_list H2.u PySem.F.slot_list_extend PySem.F.type_list_extend ?_
 walk_at "w"
 refine sub_slice (by simp;exact Y80 hA) ?_
 rw[pick_from _ _ (by simpa using hj),<- List.map_drop]
 walk_at "w"
 refine call_extend (vs:=U.map kV) (ws:=(A.drop j).map kV) H2.u rfl (by simp;exact Y96 hU) (by simp;exact Y161 hA) ?_
 rw[<- List.map_append]
 walk_at "w"
 refine WS_Break ?_
 exact h _ _ (H2.apu (U':=A.drop j)) ⟨by walk_at "l",by walk_at "l",trivial⟩
theorem sld_nil1 (n:Nat) (ys:List Key):sld n [] ys=([],ys):=by cases n<;>rfl
theorem sld_nil2 (n:Nat) (xs:List Key):sld n xs []=(xs,[]):=by
 cases n with
 | zero=>rfl
 | succ n=>cases xs<;>rfl
theorem idx_names:isSubtype (.type "IndexError") (.type "BaseException")=pure true/\isSubtype (.type ((Manifest.find? "IndexError").elim "type" fun x=>x.metatype)) (.type "tuple")=pure false/\isSubtype (.type "IndexError") (.type "IndexError")=pure true :=
 ⟨by rw[isSubtype_type];kernel_rfl,by rw[isSubtype_type];kernel_rfl,by rw[isSubtype_type];kernel_rfl⟩
theorem WS_WhileOnce {test:Expr} {body orelse:List Stmt} {pos:Pos} {K:Fl->St->Prop} (hF:Fm c) (h:WT d c test σ fun b σ1=>b=false/\WB d c orelse σ1 K):WS d c (.While test body orelse pos) σ K :=
 WS_While hF (I:=fun m σ'=>m=0/\σ'=σ) (fun n σ' hI=>by
  obtain hq0:=hI.1;obtain hq1:=hI.2
  try clear hI
  subst hq0
  subst hq1
  refine h.mono fun b σ1 hb=>?_
  simp only[hb.1]
  simpa using hb.2) 0 ⟨rfl,rfl⟩
theorem sub_lstK {value slice:Expr} {E:List Key} {i:Nat} {z:Key} {K:V->St->Prop} (hz:E.length<=100) (h:E[i]? = some z) (k:K (kV z) σ):Sub d c value slice (.lst (E.map kV)) (.int (i:Int)) σ K :=
 sub_lst (v:=kV z) (Int.natCast_nonneg i) (by obtain this:=(List.getElem?_eq_some_iff.mp h).1;exact Y193 hz this) (by simp only[Int.toNat_natCast,List.getElem?_map,h];rfl) k
theorem sub_outK {value slice:Expr} {E:List Key} {i:Nat} {K:V->St->Prop} (hh:c.A.handled=none) (hz:i<=1000) (hv:E.length<=i) (h:c.X ⟨"IndexError",true⟩ σ):Sub d c value slice (.lst (E.map kV)) (.int (i:Int)) σ K :=
 sub_lst_out hh (Int.natCast_nonneg i) (Y85 hz) (by rw[List.length_map];exact Y172 hv) h
theorem try_spec {A0:Around} {L:Addr} {E A M U fm fu:List Key} {i j n:Nat} {hp0 hp:Addr->Option AO} {MA UA:Addr} {ll:List (Str×V)} {KT:Fl->St->Prop} (R:Rm A0 1) (H:DS hp0 hp MA UA M U) (hl:LocIn (lk ll) (locD E A i j MA UA)) (hi:i<=E.length) (hj:j<=A.length) (hE:E.length<=100) (hA:A.length<=100) (hM:M.length<=i) (hU:U.length<=j) (sE:Asc E) (sA:Asc A)
  (hn:(E.length - i)+(A.length - j)<=n) (hfm:M++(sld n (E.drop i) (A.drop j)).1=fm) (hfu:U++(sld n (E.drop i) (A.drop j)).2=fu)
  (hnext:∀ i' j' M' U' hp' ll' n',n=n'+1->DS hp0 hp' MA UA M' U'->LocIn (lk ll') (locD E A (i':Nat) (j':Nat) MA UA)->i'<=E.length->j'<=A.length->M'.length<=i'->U'.length<=j'->(E.length - i')+(A.length - j')<=n'->M'++(sld n' (E.drop i') (A.drop j')).1=fm->U'++(sld n' (E.drop i') (A.drop j')).2=fu->KT .next ⟨lk ll',hp'⟩)
  (hbrk:∀ hp2 ll2,DS hp0 hp2 MA UA fm fu->LocIn (lk ll2) [(ofS "missing",.obj MA),(ofS "unexpected",.obj UA)]->KT .brk ⟨lk ll2,hp2⟩) :
  WS d (cxOf A0 (fd204 d.w.params) L 204) try204 ⟨lk ll,hp⟩ KT:=by
 have R':Rm (cxOf A0 (fd204 d.w.params) L 204).A 0:=R.in
 obtain hu:(cxOf A0 (fd204 d.w.params) L 204).A.units+3000 < cLine:=R'.lt
 have hX:∀ (B9:Addr) (i' j':Nat) (M' U':List Key) hp' ll',DS hp0 hp' MA UA M' U'->LocIn (lk ll') (locD E A (i':Nat) (j':Nat) MA UA)->i'<=E.length->j'<=A.length->M'.length<=i'->U'.length<=j'->M'++E.drop i'=fm->U'++A.drop j'=fu ->
   WB d ⟨(cxOf A0 (fd204 d.w.params) L 204).A.mark (some (.ref B9)),(cxOf A0 (fd204 d.w.params) L 204).env,fun _ _=>False⟩ (handB try204) ⟨lk ll',hp'⟩ KT:=fun B9 i' j' M' U' hp' ll' H' hl' hi' hj' hM' hU' e1 e2 =>
  hand_spec H' hl' hi' hj' hE hA (Y223 hE hi' hM') (Y223 hA hj' hU') fun hp2 ll2 H2 L2=>hbrk hp2 ll2 (by simp only[<- e1,<- e2];exact H2) L2
 refine Ev.sub (le_loc hl) ?_
 clear hl ll
 unfold locD
 refine WS_TryExcept (T:="IndexError") Fm_cx idx_names.1 idx_names.2.1 idx_names.2.2 (reads_bltn (by kernel_rfl!) (by kernel_rfl!) (by decide +kernel) (by kernel_rfl!) (by kernel_rfl!)) ?_
 refine WB_cons ?_
 walk_at "w"
 by_cases hi':i < E.length
 case neg =>
  have hiE:i=E.length:=Y180 hi hi'
  refine sub_outK R'.handled (Y178 hi hE) (Y190 hiE) ?_
  refine ⟨rfl,fun B9=>hX B9 i j M U hp _ H ⟨by walk_at "l",by walk_at "l",by walk_at "l",by walk_at "l",by walk_at "l",by walk_at "l",trivial⟩ hi hj hM hU ?_ ?_⟩
  ·rw[hiE,List.drop_length,sld_nil1] at hfm;rw[hiE,List.drop_length];exact hfm
  ·rw[hiE,List.drop_length,sld_nil1] at hfu;exact hfu
 obtain⟨x,hx⟩:∃ x,E[i]? = some x:=⟨_,List.getElem?_eq_getElem hi'⟩
 have dE:E.drop i=x::E.drop (i+1):=by
  rw[List.drop_eq_getElem_cons hi']
  rw[List.getElem?_eq_getElem hi'] at hx;cases hx;rfl
 refine sub_lstK (by assumption) hx ?_
 walk_at "w"
 by_cases hj':j < A.length
 case neg =>
  have hjA:j=A.length:=Y180 hj hj'
  refine sub_outK R'.handled (Y178 hj hA) (Y190 hjA) ?_
  refine ⟨rfl,fun B9=>hX B9 i j M U hp _ H ⟨by walk_at "l",by walk_at "l",by walk_at "l",by walk_at "l",by walk_at "l",by walk_at "l",trivial⟩ hi hj hM hU ?_ ?_⟩
  ·rw[hjA,List.drop_length,sld_nil2] at hfm;exact hfm
  ·rw[hjA,List.drop_length,sld_nil2] at hfu;rw[hjA,List.drop_length];exact hfu
 obtain⟨y,hy⟩:∃ y,A[j]? = some y:=⟨_,List.getElem?_eq_getElem hj'⟩
 have dA:A.drop j=y::A.drop (j+1):=by
  rw[List.drop_eq_getElem_cons hj']
  rw[List.getElem?_eq_getElem hj'] at hy;cases hy;rfl
 refine sub_lstK (by assumption) hy ?_
 walk_at "w"
 have hu3:(cxOf A0 (fd204 d.w.params) L 204).A.units+3 < cLine:=Y143 hu
 refine cmp_ltK hu3 ?_
 walk_at "w"
 cases n with
 | zero=>exact (Y239 hj' hn).elim
 | succ n =>
  rw[dE,dA] at hfm hfu
  unfold sld at hfm hfu
  have nE:∀ x2,E[i+1]? = some x2->decide (x2=x)=false:=fun x2 h2=>by
   have h3:E.drop (i+1)=x2::E.drop (i+2):=by
    refine elE (List.getElem?_eq_some_iff.mp h2) fun q q2=>?_
    rw[List.drop_eq_getElem_cons q,q2]
   have:Asc (x::x2::E.drop (i+2)):=by
    have:=sE.sublist (List.drop_sublist i E)
    rw[dE,h3] at this;exact this
   exact this.ne
  have nA:∀ y2,A[j+1]? = some y2->decide (y2=y)=false:=fun y2 h2=>by
   have h3:A.drop (j+1)=y2::A.drop (j+2):=by
    refine elE (List.getElem?_eq_some_iff.mp h2) fun q q2=>?_
    rw[List.drop_eq_getElem_cons q,q2]
   have:Asc (y::y2::A.drop (j+2)):=by
    have:=sA.sublist (List.drop_sublist j A)
    rw[dA,h3] at this;exact this
   exact this.ne
  by_cases hlt:kLt x y=true
  ·rw[if_pos hlt] at hfm hfu
   rw[hlt]
   try simp only[if_true]
   walk_at "w"
   refine getM_list H.m PySem.F.slot_list_append PySem.F.type_list_append ?_
   walk_at "w"
   refine call_append H.m (by simp;exact Y231 hi hE hM) ?_
   rw[show M.map kV++[kV x]=(M++[x]).map kV by simp]
   have H2:=H.app (M':=[x])
   walk_at "w"
   refine WS_AugName (v:=.int (i:Int)) (show look _ _=_ from by walk_at "l") ?_ (by kernel_rfl!)
   walk_at "w"
   refine inp_add (S_loc (by kernel_rfl!) (by walk_at "p") ?_)
   walk_at "w"
   refine WS_WhileOnce (Fm_cx.any _) ?_
   walk_at "w"
   have ci:(i:Int)+1=((i+1:Nat):Int):=by push_cast;rfl
   rw[ci]
   cases h2:E[i+1]? with
   | none =>
    have hlen:E.length<=i+1:=List.getElem?_eq_none_iff.mp h2
    refine sub_outK R'.handled (Y177 hi hE) (Y169 hlen) ?_
    refine ⟨rfl,fun B9=>hX B9 (i+1) j (M++[x]) U _ _ H2 ⟨by walk_at "l",by walk_at "l",by walk_at "l",by walk_at "l",by walk_at "l",by walk_at "l",trivial⟩ (Y152 hi') (Y154 hj') (by first | omega | (simp;exact Y174 hM)) (by first | exact Y174 hU | (simp;omega)) ?_ ?_⟩
    ·rw[List.drop_eq_nil_of_le hlen,sld_nil1] at hfm;rw[List.drop_eq_nil_of_le hlen,List.append_nil];exact hfm
    ·rw[List.drop_eq_nil_of_le hlen,sld_nil1] at hfu;rw[dA];exact hfu
   | some z =>
    refine sub_lstK (by assumption) h2 ?_
    walk_at "w"
    refine cmp_eqU hu ?_
    walk_at "w"
    rw[nE z h2]
    refine ⟨rfl,?_⟩
    walk_at "w"
    refine hnext (i+1) j (M++[x]) U _ _ n rfl H2 ⟨by walk_at "l",by walk_at "l",by walk_at "l",by walk_at "l",by walk_at "l",by walk_at "l",trivial⟩ (Y152 hi') (Y154 hj') (by first | omega | (simp;exact Y174 hM)) (by first | exact Y174 hU | (simp;omega)) (Y247 hi' hn) ?_ ?_
    ·rw[<- hfm,dA];simp
    ·rw[dA];exact hfu
  ·rw[if_neg hlt] at hfm hfu
   rw[Bool.not_eq_true] at hlt
   rw[hlt]
   try simp only[Bool.false_eq_true,if_false]
   walk_at "w"
   refine cmp_gtK hu3 ?_
   walk_at "w"
   by_cases hgt:kLt y x=true
   ·rw[if_pos hgt] at hfm hfu
    rw[hgt]
    try simp only[if_true]
    walk_at "w"
    refine getM_list H.u PySem.F.slot_list_append PySem.F.type_list_append ?_
    walk_at "w"
    refine call_append H.u (by simp;exact Y231 hj hA hU) ?_
    rw[show U.map kV++[kV y]=(U++[y]).map kV by simp]
    have H2:=H.apu (U':=[y])
    walk_at "w"
    refine WS_AugName (v:=.int (j:Int)) (show look _ _=_ from by walk_at "l") ?_ (by kernel_rfl!)
    walk_at "w"
    refine inp_add (S_loc (by kernel_rfl!) (by walk_at "p") ?_)
    walk_at "w"
    refine WS_WhileOnce (Fm_cx.any _) ?_
    walk_at "w"
    have ci:(j:Int)+1=((j+1:Nat):Int):=by push_cast;rfl
    rw[ci]
    cases h2:A[j+1]? with
    | none =>
     have hlen:A.length<=j+1:=List.getElem?_eq_none_iff.mp h2
     refine sub_outK R'.handled (Y177 hj hA) (Y169 hlen) ?_
     refine ⟨rfl,fun B9=>hX B9 i (j+1) M (U++[y]) _ _ H2 ⟨by walk_at "l",by walk_at "l",by walk_at "l",by walk_at "l",by walk_at "l",by walk_at "l",trivial⟩ (Y154 hi') (Y152 hj') (by first | exact Y174 hM | (simp;omega)) (by first | omega | (simp;exact Y174 hU)) ?_ ?_⟩
     ·rw[List.drop_eq_nil_of_le hlen,sld_nil2] at hfm;rw[dE];exact hfm
     ·rw[List.drop_eq_nil_of_le hlen,sld_nil2] at hfu;rw[List.drop_eq_nil_of_le hlen,List.append_nil];exact hfu
    | some z =>
     refine sub_lstK (by assumption) h2 ?_
     walk_at "w"
     refine cmp_eqU hu ?_
     walk_at "w"
     rw[nA z h2]
     refine ⟨rfl,?_⟩
     walk_at "w"
     refine hnext i (j+1) M (U++[y]) _ _ n rfl H2 ⟨by walk_at "l",by walk_at "l",by walk_at "l",by walk_at "l",by walk_at "l",by walk_at "l",trivial⟩ (Y154 hi') (Y152 hj') (by first | exact Y174 hM | (simp;omega)) (by first | omega | (simp;exact Y174 hU)) (Y249 hj' hn) ?_ ?_
     ·rw[dE];exact hfm
     ·rw[<- hfu,dE];simp
   ·rw[if_neg hgt] at hfm hfu
    rw[Bool.not_eq_true] at hgt
    rw[hgt]
    try simp only[Bool.false_eq_true,if_false]
    obtain rfl:=kLt_eq hlt hgt
    walk_at "w"
    refine WS_AugName (v:=.int (i:Int)) (show look _ _=_ from by walk_at "l") ?_ (by kernel_rfl!)
    walk_at "w"
    refine inp_add (S_loc (by kernel_rfl!) (by walk_at "p") ?_)
    have ci:(i:Int)+1=((i+1:Nat):Int):=by push_cast;rfl
    have cj:(j:Int)+1=((j+1:Nat):Int):=by push_cast;rfl
    rw[ci]
    walk_at "w"
    refine WS_TryFinally (Fm_cx.any _) ?_
    refine WB_cons ?_
    refine WS_WhileOnce (Fm_cx.any _) ?_
    walk_at "w"
    cases h2:E[i+1]? with
    | none =>
     have hlen:E.length<=i+1:=List.getElem?_eq_none_iff.mp h2
     rw[List.drop_eq_nil_of_le hlen,sld_nil1] at hfm hfu
     refine sub_outK R'.handled (Y177 hi hE) (Y169 hlen) ?_
     refine ⟨rfl,fun B9 _ hno=>?_⟩
     refine WB_cons ?_
     refine WS_AugName (v:=.int (j:Int)) (show look _ _=_ from by walk_at "l") ?_ (by kernel_rfl!)
     walk_at "w"
     refine inp_add (S_loc (by kernel_rfl!) (by walk_at "p") ?_)
     rw[cj]
     walk_at "w"
     refine WS_WhileOnce (Fm_cx.mark _ _) ?_
     walk_at "w"
     cases h3:A[j+1]? with
     | none =>
      have hlen3:A.length<=j+1:=List.getElem?_eq_none_iff.mp h3
      refine sub_lst_outH (L4:=B9) (n:="IndexError") (congrArg (Option.or (some (Value.ref B9))) R'.handled |>.trans rfl) updH_at Y34 (Y176 hj hA) (by simp;exact Y168 hlen3) ?_
      refine ⟨rfl,fun C2=>hX C2 (i+1) (j+1) M U _ _ (H.fresh hno) ⟨by walk_at "l",by walk_at "l",by walk_at "l",by walk_at "l",by walk_at "l",by walk_at "l",trivial⟩ (Y152 hi') (Y152 hj') (Y175 hM) (Y175 hU) ?_ ?_⟩
      ·rw[List.drop_eq_nil_of_le hlen];exact hfm
      ·exact hfu
     | some z =>
      refine sub_lstK (by assumption) h3 ?_
      walk_at "w"
      refine cmp_eqU hu ?_
      walk_at "w"
      rw[nA z h3]
      refine ⟨rfl,?_⟩
      have hjl:j+1 < A.length:=(List.getElem?_eq_some_iff.mp h3).1
      walk_at "w"
      refine ⟨rfl,updH_at,rfl,fun C2=>hX C2 (i+1) (j+1) M U _ _ (H.eq (dropH_upd hno)) ⟨by walk_at "l",by walk_at "l",by walk_at "l",by walk_at "l",by walk_at "l",by walk_at "l",trivial⟩ (Y152 hi') (Y133 hjl) (Y175 hM) (Y175 hU) ?_ ?_⟩
      ·rw[List.drop_eq_nil_of_le hlen];exact hfm
      ·exact hfu
    | some z =>
     have hil:i+1 < E.length:=(List.getElem?_eq_some_iff.mp h2).1
     refine sub_lstK (by assumption) h2 ?_
     walk_at "w"
     refine cmp_eqU hu ?_
     walk_at "w"
     rw[nE z h2]
     refine ⟨rfl,?_⟩
     walk_at "w"
     refine ⟨rfl,?_⟩
     refine WB_cons ?_
     refine WS_AugName (v:=.int (j:Int)) (show look _ _=_ from by walk_at "l") ?_ (by kernel_rfl!)
     walk_at "w"
     refine inp_add (S_loc (by kernel_rfl!) (by walk_at "p") ?_)
     rw[cj]
     walk_at "w"
     refine WS_WhileOnce (Fm_cx.any _) ?_
     walk_at "w"
     cases h3:A[j+1]? with
     | none =>
      have hlen3:A.length<=j+1:=List.getElem?_eq_none_iff.mp h3
      rw[List.drop_eq_nil_of_le hlen3,sld_nil2] at hfm hfu
      refine sub_outK R'.handled (Y177 hj hA) (Y169 hlen3) ?_
      refine ⟨rfl,fun C2=>hX C2 (i+1) (j+1) M U _ _ H ⟨by walk_at "l",by walk_at "l",by walk_at "l",by walk_at "l",by walk_at "l",by walk_at "l",trivial⟩ (Y133 hil) (Y152 hj') (Y175 hM) (Y175 hU) ?_ ?_⟩
      ·exact hfm
      ·rw[List.drop_eq_nil_of_le hlen3];exact hfu
     | some z3 =>
      have hjl:j+1 < A.length:=(List.getElem?_eq_some_iff.mp h3).1
      refine sub_lstK (by assumption) h3 ?_
      walk_at "w"
      refine cmp_eqU hu ?_
      walk_at "w"
      rw[nA z3 h3]
      refine ⟨rfl,?_⟩
      walk_at "w"
      exact hnext (i+1) (j+1) M U _ _ n rfl H ⟨by walk_at "l",by walk_at "l",by walk_at "l",by walk_at "l",by walk_at "l",by walk_at "l",trivial⟩ (by omega) (by omega) (by omega) (by omega) (by omega) hfm hfu
theorem sld_spec {E A:List Key} {K:V->St->Prop} (R:Rm c.A 2) (hE:E.length<=100) (hA:A.length<=100) (sE:Asc E) (sA:Asc A)
  (h:∀ hp',(∀ b ao,σ.hp b=some ao->hp' b=some ao)->K (.tup [ksV (sld (E.length+A.length) E A).1,ksV (sld (E.length+A.length) E A).2]) ⟨σ.loc,hp'⟩):CallV d c (.ref 204) [ksV E,ksV A] [] σ K:=by
 refine CallV_ok (bs:=[(ofS "expected",ksV E),(ofS "actual",ksV A)]) (ok204 d) R.room (bind2 fun u v=>rfl) (fun L=>?_)
 refine WB_cons ?_
 walk_at "w"
 refine W_ListM ?_
 walk_at "w"
 refine ⟨by simp,fun MA hMA=>?_⟩
 walk_at "w"
 refine W_ListM ?_
 walk_at "w"
 refine ⟨by simp,fun UA hUA=>?_⟩
 walk_at "w"
 obtain i1:=(updH_none hUA).1;obtain hUA':=(updH_none hUA).2
 obtain D0:DS σ.hp (updH (updH σ.hp MA (.list [])) UA (.list [])) MA UA [] []:=by
  refine ⟨fun b ao e=>?_,(updH_ne (Ne.symm i1)).trans updH_at,updH_at,hMA,hUA',Ne.symm i1⟩
  obtain b1:b≠MA:=fun z=>by rw[z] at e;rw[show σ.hp MA=none from hMA] at e;cases e
  obtain b2:b≠UA:=fun z=>clZ hUA' e z
  walk_at "m up"
 refine WS_While Fm_cx (I:=fun m σ'=>∃ (i j:Nat) (M U:List Key) (hp':Addr->Option AO) (ll:List (Str×V)),σ'=⟨lk ll,hp'⟩/\DS σ.hp hp' MA UA M U/\LocIn (lk ll) (locD E A i j MA UA)/\i<=E.length/\j<=A.length/\M.length<=i/\U.length<=j/\(E.length - i)+(A.length - j)<=m /\
   M++(sld m (E.drop i) (A.drop j)).1=(sld (E.length+A.length) E A).1/\U++(sld m (E.drop i) (A.drop j)).2=(sld (E.length+A.length) E A).2) ?_ (E.length+A.length) ⟨0,0,[],[],_,_,rfl,D0,⟨by walk_at "l",by walk_at "l",show look (ofS "i") _=some (V.int 0) from by walk_at "l",show look (ofS "j") _=some (V.int 0) from by walk_at "l",by walk_at "l",by walk_at "l",trivial⟩,Nat.zero_le _,Nat.zero_le _,Nat.le_refl _,Nat.le_refl _,Y148,rfl,rfl⟩
 intro m σ' zr2
 refine elEEEE zr2 fun i j M U zz0=>?_
 refine elEE zz0 fun hp1 ll zz394=>?_;obtain hq6:=zz394.1;obtain H:=zz394.2.1;obtain hll:=zz394.2.2.1;obtain zz1:=zz394.2.2.2
 obtain hi:=zz1.1;obtain hj:=zz1.2.1;obtain hM:=zz1.2.2.1;obtain hU:=zz1.2.2.2.1;obtain hm:=zz1.2.2.2.2.1;obtain e1:=zz1.2.2.2.2.2.1;obtain e2:=zz1.2.2.2.2.2.2
 try clear zr2
 subst hq6
 walk_at "w"
 try simp only[if_true]
 refine WB_cons ?_
 refine try_spec (A0:=c.A) (R.le (by decide)) H hll hi hj hE hA hM hU sE sA hm e1 e2 (fun i' j' M' U' hp' ll' n' en H' L' q1 q2 q3 q4 q5 q6 q7=>?_) (fun hp2 ll2 H2 L2=>?_)
 ·refine WB_nil ⟨n',Y188 en,i',j',M',U',hp',ll',rfl,H',L',q1,q2,q3,q4,q5,q6,q7⟩
 ·dsimp only [Then]
  refine Ev.sub (le_loc L2) ?_
  refine Ev.freeze (a:=MA) H2.m (FrzL.frz (FrzL.same FrzL.nil)) ?_
  refine Ev.freeze (a:=UA) ((dropH_ne (Ne.symm H2.ne)).trans H2.u) (FrzL.same (FrzL.frz FrzL.nil)) ?_
  refine WB_cons ?_
  walk_at "w"
  refine W_Tuple ?_
  walk_at "w"
  refine ⟨by simp,?_⟩
  refine h _ fun b ao e=>?_
  obtain b1:b≠MA:=fun z=>clZ H2.f1 e z
  have b2:b≠UA:=fun z=>clZ H2.f2 e z
  exact (dropH_ne b2).trans ((dropH_ne b1).trans (H2.old b ao e))
end
section
variable {d:Wd} {c:Cx} {σ:St}
noncomputable def daysF (above:Int):Nat->Int->Option Int
 | 0,_=>none
 | f+1,days=>if above+64 * days<=64 then daysF above f (days+1) else some days
noncomputable def sideF (b:Bd) (k:Key):Int:=if mineM b k=true then 1 else -1
noncomputable def goW (b:Bd) (wf:Key->Option Int) (root:Key):List Key->Int->Option Int
 | [],w=>some w
 | k::ks,w=>if k.dropLast=root then (wf k).bind fun r=>(daysF (sideF b k * r) 100 1).bind fun dy=>goW b wf root ks (w+sideF b k * ((sideF b k * r+64 * dy).fdiv (2 ^ (dy - 1).toNat))) else goW b wf root ks w
noncomputable def worthF (b:Bd) (pos:List Key):Nat->Key->Option Int
 | 0,_=>none
 | f+1,root=>goW b (worthF b pos f) root pos 0
theorem daysF_le {above:Int}:∀ {f:Nat} {d d':Int},daysF above f d=some d'->d<=d'/\d' < d+f
 | 0,_,_,h=>nomatch h
 | f+1,d,d',h=>by
  unfold daysF at h
  split at h
  ·have:=daysF_le h;push_cast;exact Y114 this
  ·cases h;push_cast;exact Y16
theorem sideF_bits {b:Bd} {k:Key}:Builtin.Int.intBits (sideF b k)<=64:=by
 unfold sideF;split
 ·decide
 ·decide
theorem by_pylong {a:Int} {n:Nat} (h:n<=200):Builtin.divisionGoesByPylong a (2 ^ n)=false:=by
 unfold Builtin.divisionGoesByPylong
 have e:((2:Int) ^ n).natAbs.log2=n:=by rw[Int.natAbs_pow];exact Nat.log2_two_pow
 have z:((2:Int) ^ n == 0)=false:=by
  rw[beq_eq_false_iff_ne];exact Int.ne_of_gt (Int.pow_pos (by omega))
 simp only[z,e,Bool.false_eq_true,if_false]
 rw[Bool.and_eq_false_iff]
 left
 simp;exact Y95 h
theorem if_side {b:Bd} {k:Key} {e1 e2:Expr} {K:V->St->Prop} (h1:∀ K:V->St->Prop,K (.int 1) σ->W d c e1 σ K) (h2:∀ K:V->St->Prop,K (.int (-1)) σ->W d c e2 σ K) (h:K (.int (sideF b k)) σ):if mineM b k=true then W d c e1 σ K else W d c e2 σ K:=by
 unfold sideF at h
 split
 ·rename_i q;rw[if_pos q] at h;exact h1 K h
 ·rename_i q;rw[if_neg q] at h;exact h2 K h
noncomputable def fd243 (P:Params):FuncData:=fnData (o243 P)
theorem ok243 (d:Wd):FnOk d 243 (fd243 d.w.params) (kidS S18) [ofS "position",ofS "board",ofS "root"]:=⟨⟨o243 d.w.params,by kernel_rfl!,by kernel_rfl!⟩,by kernel_rfl!,by kernel_rfl!,by kernel_rfl!,fun L=>by kernel_rfl!,by kernel_rfl!,by kernel_rfl!,by kernel_rfl!,by kernel_rfl!,by kernel_rfl!,by kernel_rfl!⟩
theorem worth_spec {b:Bd} {pos:List Key} (hz:b.m2.length<=1000) (hm2:∀ one∈b.m2,one.length<=1000) (hp:∀ k∈pos,k.length<=1000) (hz2:pos.length<=1000) :
  ∀ (f:Nat) {d:Wd} {c:Cx} {σ:St} {root:Key} {w:Int} {K:V->St->Prop},Rm c.A (f+2)->worthF b pos f root=some w->K (.int w) σ->CallV d c (.ref 243) [ksV pos,bV b,kV root] [] σ K:=by
 intro f
 induction f with
 | zero=>intro d c σ root w K R hw;cases hw
 | succ f ihf =>
 intro d c σ root w K R hw h
 refine CallV_ok (bs:=[(ofS "position",ksV pos),(ofS "board",bV b),(ofS "root",kV root)]) (ok243 d) R.room (bind3 fun u v w=>rfl) (fun L=>?_)
 have R':Rm (cxOf c.A (fd243 d.w.params) L 243).A (f+2):=Rm.in (R.le Y49)
 refine WB_cons ?_
 walk_at "w"
 refine WS_For (fun _ _ q=>q) R'.handled ?_
 walk_at "w"
 refine ⟨_,_,iter_lst,?_⟩
 refine (fun G:(∀ (ks:List Key) (w':Int) (l:List (Str×V)),(∀ k∈ks,k.length<=1000)->goW b (worthF b pos f) root ks w'=some w->LocIn (lk l) [(ofS "position",ksV pos),(ofS "board",bV b),(ofS "root",kV root),(ofS "worth",.int w')] ->
   ForRun d _ _ _ _ _ _ (ks.map kV) ⟨lk l,σ.hp⟩)=>G pos 0 _ hp hw ⟨by walk_at "l",by walk_at "l",by walk_at "l",by walk_at "l",trivial⟩) ?_
 intro ks
 induction ks with
 | nil =>
  intro w' l _ e hl
  cases e
  refine (fun G:WB d _ _ ⟨lk [(ofS "position",ksV pos),(ofS "board",bV b),(ofS "root",kV root),(ofS "worth",.int w)],σ.hp⟩ _=>Ev.sub (le_loc hl) G) ?_
  walk_at "w"
  exact h
 | cons k ks ih =>
  intro w' l hk e hl
  have hk1:=hk k (.head _)
  refine (fun G:ForRun d _ _ _ _ _ _ _ ⟨lk [(ofS "position",ksV pos),(ofS "board",bV b),(ofS "root",kV root),(ofS "worth",.int w')],σ.hp⟩=>ForRun.sub (le_loc hl) G) ?_
  show Asg d _ _ _ _ _
  walk_at "w"
  refine sub_cutM hk1 ?_
  walk_at "w"
  refine cmp_eqK (R'.le Y36) ?_
  walk_at "w"
  unfold goW at e
  by_cases hr:k.dropLast=root
  ·rw[if_pos hr] at e
   simp only[hr,decide_true,if_true]
   refine elEA (Option.bind_eq_some_iff.mp e) fun r er e=>?_
   refine elEA (Option.bind_eq_some_iff.mp e) fun dy ed e=>?_
   walk_at "w"
   refine law_mine_spec (R'.le Y39) hz hk1 hm2 ?_
   refine tru_bool ?_
   refine if_side (fun K h=>by
    walk_at "w"
    exact h) (fun K h=>by
    walk_at "w"
    exact h) ?_
   walk_at "w"
   refine ihf (R'.le Y50) er ?_
   refine bin_mul (IntMulOk.of_left sideF_bits) ?_
   walk_at "w"
   refine WS_While (Fm_cx.any _) (I:=fun n σ'=>∃ (dd:Int) (l2:List (Str×V)),daysF (sideF b k * r) n dd=some dy/\1<=dd/\dd < 1+100/\σ'=⟨lk l2,σ.hp⟩/\LocIn (lk l2) [(ofS "position",ksV pos),(ofS "board",bV b),(ofS "root",kV root),(ofS "worth",.int w'),(ofS "side",.int (sideF b k)),(ofS "above",.int (sideF b k * r)),(ofS "days",.int dd)]) ?_ 100 ⟨1,_,ed,by omega,by omega,rfl,⟨by walk_at "l",by walk_at "l",by walk_at "l",by walk_at "l",by walk_at "l",by walk_at "l",by walk_at "l",trivial⟩⟩
   intro n uu zr2
   refine elEEAAA zr2 fun dd l2 ed2 g1 g2 zz0=>?_
   refine elA zz0 fun hq5 hl2=>?_
   try clear zr2
   subst hq5
   refine (fun G:WT d _ _ ⟨lk [(ofS "position",ksV pos),(ofS "board",bV b),(ofS "root",kV root),(ofS "worth",.int w'),(ofS "side",.int (sideF b k)),(ofS "above",.int (sideF b k * r)),(ofS "days",.int dd)],σ.hp⟩ _=>Ev.sub (le_loc hl2) G) ?_
   cases n with
   | zero=>cases ed2
   | succ n =>
   walk_at "w"
   refine bin_mul (IntMulOk.of_left (by decide)) ?_
   walk_at "w"
   unfold daysF at ed2
   have g3:=daysF_le ed
   by_cases hd:sideF b k * r+64 * dd<=64
   ·rw[if_pos hd] at ed2
    simp only[hd,decide_true,if_true]
    have g4:=daysF_le ed2
    walk_at "w"
    refine WS_AugName (v:=.int dd) (show look _ _=_ from by walk_at "l") ?_ (by kernel_rfl!)
    walk_at "w"
    refine inp_add (S_loc (by kernel_rfl!) (by walk_at "p") ?_)
    walk_at "w"
    exact⟨n,Y60,dd+1,_,ed2,Y23 g1,Y113 g3 g4,rfl,⟨by walk_at "l",by walk_at "l",by walk_at "l",by walk_at "l",by walk_at "l",by walk_at "l",by walk_at "l",trivial⟩⟩
   ·rw[if_neg hd] at ed2
    cases ed2
    simp only[hd,decide_false,Bool.false_eq_true,if_false]
    walk_at "w"
    refine WS_AugName (v:=.int w') (show look _ _=_ from by walk_at "l") ?_ (by kernel_rfl!)
    walk_at "w"
    refine bin_mul (IntMulOk.of_left (by decide)) ?_
    walk_at "w"
    refine bin_pow (Y22 g1) (by
     rw[show Builtin.Int.intBits 2=2 from by decide];push_cast;exact Y25 g2) ?_
    refine bin_div (Int.ne_of_gt (Int.pow_pos (by omega))) (by_pylong (Y24 g2)) ?_
    refine bin_mul (IntMulOk.of_left sideF_bits) ?_
    refine inp_add (S_loc (by kernel_rfl!) (by walk_at "p") ?_)
    walk_at "w"
    exact⟨trivial,ih _ _ (fun q hq=>hk q (.tail _ hq)) e ⟨by walk_at "l",by walk_at "l",by walk_at "l",by walk_at "l",trivial⟩⟩
  ·rw[if_neg hr] at e
   simp only[hr,decide_false,Bool.false_eq_true,if_false]
   walk_at "w"
   exact⟨trivial,ih w' _ (fun q hq=>hk q (.tail _ hq)) e ⟨by walk_at "l",by walk_at "l",by walk_at "l",by walk_at "l",trivial⟩⟩
end
section
variable {d:Wd} {c:Cx} {σ:St}
theorem cmp_notInK {a:Key} {ks:List Key} {K:V->St->Prop} (R:Rm c.A 0) (h:K (.bool (!decide (a∈ks))) σ):Cmp d c .NotIn (kV a) (ksV ks) σ K:=cmp_notInD (kV_data a) (datas_of kV_data ks) (Nat.le_trans (depth_kD a) Y6) R (by rw[any_key];exact h)
noncomputable def bitN (q k:Nat):Bool:=decide (q / 2 ^ k % 2=1)
theorem bit_eq (q k:Nat):decide ((((q:Int).fdiv (2 ^ ((k:Int)).toNat)).fmod 2)=1)=bitN q k:=by
 unfold bitN
 obtain e:(((q:Int).fdiv (2 ^ ((k:Int)).toNat)).fmod 2)=((q / 2 ^ k % 2:Nat):Int):=by
  rw[Int.toNat_natCast,Int.fdiv_eq_ediv_of_nonneg _ (Int.le_of_lt (Int.pow_pos (by omega))),Int.fmod_eq_emod_of_nonneg _ (by omega)]
  push_cast;rfl
 rw[e]
 exact decide_eq_decide.mpr Y116
noncomputable def posK (keys:List Key) (q:Nat):List Key:=((List.range 4).filter (bitN q)).map fun k=>keys.getD k []
noncomputable def okK (keys:List Key) (q:Nat):Bool:=((posK keys q).filter fun key=>!decide (key.dropLast=[]) && !decide (key.dropLast∈posK keys q)) == []
noncomputable def clN (keys:List Key) (n i:Nat):List Int:=((List.range n).filter fun q=>okK keys q&&(posK keys q).length == i).map fun q:Nat=>(q:Int)
theorem posK_le (keys:List Key) (q:Nat):(posK keys q).length<=4:=by
 unfold posK
 simp only[List.length_map]
 exact Nat.le_trans (List.length_filter_le ..) (by simp)
theorem posK_mem {keys:List Key} {q:Nat} {p:Key->Prop} (h4:keys.length=4) (h:∀ k∈keys,p k):∀ k∈posK keys q,p k:=by
 intro k hk
 unfold posK at hk
 refine elEA (List.mem_map.mp hk) fun i hi hq2=>?_
 subst hq2
 obtain this:=List.mem_range.mp (List.mem_filter.mp hi).1
 rw[List.getD_eq_getElem?_getD,List.getElem?_eq_getElem (Y187 h4 this)]
 exact h _ (List.getElem_mem _)
theorem clN_succ (keys:List Key) (n i:Nat):clN keys (n+1) i=if okK keys n=true/\(posK keys n).length=i then clN keys n i++[(n:Int)] else clN keys n i:=by
 unfold clN
 simp only[List.range_succ,List.filter_append,List.map_append]
 split
 ·rename_i h
  rw[List.filter_cons_of_pos (by simp[h.1,h.2])];rfl
 ·rename_i h
  rw[List.filter_cons_of_neg (by simpa using h)];simp
theorem getK_row {keys:List Key} {k:Nat} (h4:keys.length=4) (hk:k < 4):(keys.map kV)[((k:Int)).toNat]? = some (kV (keys.getD k [])):=by
 rw[Int.toNat_natCast,List.getElem?_map,List.getD_eq_getElem?_getD,List.getElem?_eq_getElem (Y187 h4 hk)];rfl
structure CL (hp0 hp:Addr->Option AO) (C:Addr) (A:Nat->Addr) (keys:List Key) (m:Nat):Prop where
 old:∀ b ao,hp0 b=some ao->hp b=some ao
 fr:∀ i,i < 5->hp0 (A i)=none
 ne:∀ i,i < 5->A i≠C
 inj:∀ i j,i < 5->j < 5->A i=A j->i=j
 out:hp C=some (.list ((List.range 5).map fun i=>V.obj (A i)))
 ins:∀ i,i < 5->hp (A i)=some (.list ((clN keys m i).map V.int))
theorem CL.step {hp0 hp:Addr->Option AO} {C:Addr} {A:Nat->Addr} {keys:List Key} {m:Nat} (H:CL hp0 hp C A keys m) (h:okK keys m=true):CL hp0 (updH hp (A (posK keys m).length) (.list ((clN keys m (posK keys m).length).map V.int++[.int (m:Int)]))) C A keys (m+1):=by
 have h5:(posK keys m).length < 5:=by obtain this:=posK_le keys m;exact Y102 this
 refine ⟨fun b ao e=>(updH_ne fun q=>?_).trans (H.old b ao e),H.fr,H.ne,H.inj,(updH_ne (Ne.symm (H.ne _ h5))).trans H.out,fun i hi=>?_⟩
 ·simp only[q,H.fr _ h5] at e;cases e
 ·rw[clN_succ]
  by_cases e:(posK keys m).length=i
  ·rw[if_pos ⟨h,e⟩,<- e]
   rw[List.map_append];exact updH_at
  ·rw[if_neg fun z=>e z.2]
   exact (updH_ne fun q=>e (H.inj _ _ h5 hi q.symm)).trans (H.ins i hi)
theorem CL.skip {hp0 hp:Addr->Option AO} {C:Addr} {A:Nat->Addr} {keys:List Key} {m:Nat} (H:CL hp0 hp C A keys m) (h:okK keys m=false):CL hp0 hp C A keys (m+1) :=
 ⟨H.old,H.fr,H.ne,H.inj,H.out,fun i hi=>by rw[clN_succ,if_neg (fun z=>by rw[h] at z;cases z.1)];exact H.ins i hi⟩
noncomputable def fd236 (P:Params):FuncData:=fnData (o236 P)
theorem ok236 (d:Wd):FnOk d 236 (fd236 d.w.params) (kidS S17) [ofS "keys"]:=⟨⟨o236 d.w.params,by kernel_rfl!,by kernel_rfl!⟩,by kernel_rfl!,by kernel_rfl!,by kernel_rfl!,fun L=>by kernel_rfl!,by kernel_rfl!,by kernel_rfl!,by kernel_rfl!,by kernel_rfl!,by kernel_rfl!,by kernel_rfl!⟩
theorem closed_spec {keys:List Key} {K:V->St->Prop} (R:Rm c.A 1) (h4:keys.length=4) (hk:∀ k∈keys,k.length<=1000)
  (h:∀ hp' C A,CL σ.hp hp' C A keys 16->K (.obj C) ⟨σ.loc,hp'⟩):CallV d c (.ref 236) [ksV keys] [] σ K:=by
 refine CallV_ok (bs:=[(ofS "keys",ksV keys)]) (ok236 d) R.room (bind1 fun u=>rfl) (fun L=>?_)
 have R':Rm (cxOf c.A (fd236 d.w.params) L 236).A 0:=R.in
 refine WB_cons ?_
 walk_at "w"
 refine W_ListM ?_
 walk_at "w"
 refine W_ListM ?_
 walk_at "w"
 refine ⟨by decide,fun a0 f0=>?_⟩
 walk_at "w"
 refine W_ListM ?_
 walk_at "w"
 refine ⟨by decide,fun a1 f1=>?_⟩
 walk_at "w"
 refine W_ListM ?_
 walk_at "w"
 refine ⟨by decide,fun a2 f2=>?_⟩
 walk_at "w"
 refine W_ListM ?_
 walk_at "w"
 refine ⟨by decide,fun a3 f3=>?_⟩
 walk_at "w"
 refine W_ListM ?_
 walk_at "w"
 refine ⟨by decide,fun a4 f4=>?_⟩
 walk_at "w"
 refine ⟨by simp,fun C fC=>?_⟩
 obtain n10:=(updH_none f1).1;obtain g1:=(updH_none f1).2
 obtain n21:=(updH_none f2).1;obtain g2:=(updH_none f2).2
 obtain n20:=(updH_none g2).1;obtain g2:=(updH_none g2).2
 obtain n32:=(updH_none f3).1;obtain g3:=(updH_none f3).2
 obtain n31:=(updH_none g3).1;obtain g3:=(updH_none g3).2
 obtain n30:=(updH_none g3).1;obtain g3:=(updH_none g3).2
 obtain n43:=(updH_none f4).1;obtain g4:=(updH_none f4).2
 obtain n42:=(updH_none g4).1;obtain g4:=(updH_none g4).2
 obtain n41:=(updH_none g4).1;obtain g4:=(updH_none g4).2
 obtain n40:=(updH_none g4).1;obtain g4:=(updH_none g4).2
 obtain nC4:=(updH_none fC).1;obtain gC:=(updH_none fC).2
 obtain nC3:=(updH_none gC).1;obtain gC:=(updH_none gC).2
 obtain nC2:=(updH_none gC).1;obtain gC:=(updH_none gC).2
 obtain nC1:=(updH_none gC).1;obtain gC:=(updH_none gC).2
 obtain nC0:=(updH_none gC).1;obtain gC:=(updH_none gC).2
 obtain H0:CL σ.hp (updH (updH (updH (updH (updH (updH σ.hp a0 (.list [])) a1 (.list [])) a2 (.list [])) a3 (.list [])) a4 (.list [])) C (.list [.obj a0,.obj a1,.obj a2,.obj a3,.obj a4])) C (fun i=>[a0,a1,a2,a3,a4].getD i 0) keys 0:=by
  refine ⟨fun b ao e=>?_,fun i hi=>?_,fun i hi=>?_,fun i j hi hj e=>?_,updH_at,fun i hi=>?_⟩
  ·obtain z:∀ {q},σ.hp q=none->b≠q:=fun z y=>by simp only[y,z] at e;cases e
   exact (updH_ne (z gC)).trans ((updH_ne (z g4)).trans ((updH_ne (z g3)).trans ((updH_ne (z g2)).trans ((updH_ne (z g1)).trans ((updH_ne (z f0)).trans e)))))
  ·exact lt5 (p:=fun i=>σ.hp ([a0,a1,a2,a3,a4].getD i 0)=none) f0 g1 g2 g3 g4 i hi
  ·exact lt5 (p:=fun i=>[a0,a1,a2,a3,a4].getD i 0≠C) (Ne.symm nC0) (Ne.symm nC1) (Ne.symm nC2) (Ne.symm nC3) (Ne.symm nC4) i hi
  ·exact inj5 (f:=fun i=>[a0,a1,a2,a3,a4].getD i 0) n10 n20 n21 n30 n31 n32 n40 n41 n42 n43 i j hi hj e
  ·refine lt5 (p:=fun i=>updH (updH (updH (updH (updH (updH σ.hp a0 (.list [])) a1 (.list [])) a2 (.list [])) a3 (.list [])) a4 (.list [])) C (.list [.obj a0,.obj a1,.obj a2,.obj a3,.obj a4]) ([a0,a1,a2,a3,a4].getD i 0)=some (.list ((clN keys 0 i).map V.int))) ?_ ?_ ?_ ?_ ?_ i hi
   all_goals (show _=some (AO.list []);walk_at "m up")
 walk_at "w"
 refine WS_For (fun _ _ q=>q) R'.handled ?_
 walk_at "w"
 refine call_range ?_
 refine ⟨_,_,iter_rng (n:=16) (by decide),?_⟩
 rw[show rInts 16=(List.range' 0 16).map (fun i:Nat=>V.int (i:Int)) from by unfold rInts;rw[List.range_eq_range']]
 refine (fun G:(∀ (n m:Nat) (hp':Addr->Option AO) (A:Nat->Addr) (l:List (Str×V)),m+n=16->CL σ.hp hp' C A keys m->LocIn (lk l) [(ofS "keys",ksV keys),(ofS "closed",.obj C)] ->
   ForRun d _ _ _ _ _ _ ((List.range' m n).map fun i:Nat=>V.int (i:Int)) ⟨lk l,hp'⟩)=>G 16 0 _ _ _ rfl H0 ⟨by walk_at "l",by walk_at "l",trivial⟩) ?_
 intro n
 induction n with
 | zero =>
  intro m hp' A l hm H hl
  refine (fun G:WB d _ _ ⟨lk [(ofS "keys",ksV keys),(ofS "closed",.obj C)],hp'⟩ _=>Ev.sub (le_loc hl) G) ?_
  walk_at "w"
  exact h hp' C A (by simp only[<- hm];exact H)
 | succ n ih =>
  intro m hp' A l hm H hl
  refine (fun G:ForRun d _ _ _ _ _ _ _ ⟨lk [(ofS "keys",ksV keys),(ofS "closed",.obj C)],hp'⟩=>ForRun.sub (le_loc hl) G) ?_
  refine (?_:Asg d _ _ _ _ _)
  walk_at "w"
  refine W_Cmp2 true (l:=[(ofS "keys",ksV keys),(ofS "mask",.int (m:Int))]) (by kernel_rfl!) R'.handled ?_
  walk_at "w"
  refine call_range ?_
  refine ⟨_,_,iter_rng (n:=4) (by decide),by simp[rInts],⟨by walk_at "l",by walk_at "l",trivial⟩,fun C0=>?_⟩
  refine comp_pure (f:=fun i:Nat=>V.int (i:Int)) (e:=fun k:Nat=>kV (keys.getD k [])) (p:=bitN m) (fun v=>[(ofS "keys",ksV keys),(ofS "mask",.int (m:Int)),(ofS "k",v)]) (by kernel_rfl!) (fun v=>by walk_at "p") (fun u v=>by walk_at "p") trivial (List.range 4) (fun k hk4=>?_) (fun k hk4 _=>?_) _ ?_
  ·refine (?_:WT d _ _ _ _)
   have hk4:=List.mem_range.mp hk4
   walk_at "w"
   refine bin_pow2 (Y55 hk4) ?_
   refine bin_div (Int.ne_of_gt (Int.pow_pos (by omega))) (by_pylong (Y54 hk4)) ?_
   walk_at "w"
   refine bin_mod (by decide) ?_
   walk_at "w"
   rw[bit_eq]
   exact⟨rfl,rfl⟩
  ·walk_at "w"
   exact sub_lst (Int.natCast_nonneg _) (by have:=List.mem_range.mp hk4;exact Y53 this) (getK_row h4 (List.mem_range.mp hk4)) ⟨rfl,rfl⟩
  ·obtain e1:((List.range 4).filter (bitN m)).map (fun k=>kV (keys.getD k []))=(posK keys m).map kV:=by unfold posK;simp only[List.map_map];rfl
   simp only[e1,List.nil_append]
   refine (?_:AsgAll d _ _ _ _ _)
   walk_at "w"
   refine W_Cmp2 true (l:=[(ofS "position",ksV (posK keys m))]) (by kernel_rfl!) R'.handled ?_
   walk_at "w"
   refine ⟨_,_,iter_lst,by obtain this:=posK_le keys m;simp;exact Y105 this,⟨by walk_at "l",trivial⟩,fun C0=>?_⟩
   refine comp_pure (e:=kV) (p:=fun key=>!decide (key.dropLast=[]) && !decide (key.dropLast∈posK keys m)) (fun v=>[(ofS "position",ksV (posK keys m)),(ofS "key",v)]) (by kernel_rfl!) (fun v=>by walk_at "p") (fun u v=>by walk_at "p") trivial (posK keys m) (fun key hkm=>?_) (fun key hkm _=>?_) _ ?_
   ·refine (?_:WT d _ _ _ _)
    obtain hk1:=posK_mem h4 hk key hkm
    refine WT_and ?_
    walk_at "w"
    refine sub_cutM hk1 ?_
    walk_at "w"
    refine W_Tuple ?_
    walk_at "w"
    refine ⟨by simp,?_⟩
    refine cmp_neK (b:=[]) R' ?_
    walk_at "w"
    cases e0:decide (key.dropLast=[])
    ·simp only[Bool.not_false,if_true]
     walk_at "w"
     refine sub_cutM hk1 ?_
     walk_at "w"
     refine cmp_notInK R' ?_
     walk_at "w"
     cases decide (key.dropLast∈posK keys m)
     ·simp only[Bool.not_false,if_true]
      walk_at "w"
      exact⟨rfl,rfl⟩
     ·exact⟨rfl,rfl⟩
    ·simp only[Bool.not_true,Bool.false_eq_true,if_false]
     exact⟨rfl,trivial⟩
   ·walk_at "w"
    exact⟨rfl,rfl⟩
   ·refine (?_:W d _ _ _ _)
    refine W_List ?_
    walk_at "w"
    refine ⟨by simp,?_⟩
    refine cmp_eqKs (b:=[]) R' ?_
    walk_at "w"
    cases e0:okK keys m
    ·have e1:=e0
     unfold okK at e1
     rw[beq_eq_false_iff_ne] at e1
     simp only[e1,decide_false,Bool.false_eq_true,if_false]
     walk_at "w"
     exact⟨trivial,ih (m+1) hp' A _ (Y120 hm) (H.skip e0) ⟨by walk_at "l",by walk_at "l",trivial⟩⟩
    ·have e1:=e0
     unfold okK at e1
     rw[beq_iff_eq] at e1
     simp only[e1,decide_true,if_true]
     obtain h5:(posK keys m).length < 5:=by obtain this:=posK_le keys m;exact Y102 this
     walk_at "w"
     refine call_len rfl (by simp;exact Y57 h5) ?_
     rw[List.length_map]
     walk_at "w"
     refine sub_list H.out (Int.natCast_nonneg _) (Y56 h5) (by simp only[Int.toNat_natCast,List.getElem?_map,List.getElem?_range h5];rfl) ?_
     refine getM_list (H.ins _ h5) PySem.F.slot_list_append PySem.F.type_list_append ?_
     walk_at "w"
     refine call_append (H.ins _ h5) (by unfold clN;simp only[List.length_map,List.length_map];obtain this:=List.length_filter_le (fun q=>okK keys q&&(posK keys q).length == (posK keys m).length) (List.range m);simp only[List.length_range] at this;exact Y218 hm this) ?_
     walk_at "w"
     exact⟨trivial,ih (m+1) _ A _ (Y120 hm) (H.step e0) ⟨by walk_at "l",by walk_at "l",trivial⟩⟩
end
section
variable {d:Wd} {c:Cx} {σ:St}
theorem sub_listF {value slice:Expr} {a b:Addr} {vs ws:List V} {k:Int} {K:V->St->Prop} (hp:σ.hp a=some (.list vs)) (h0:0<=k) (hhi:k < 2 ^ 63) (hv:vs[k.toNat]? = some (.obj b)) (hb:σ.hp b=some (.list ws)) (h:K (.lst ws) ⟨σ.loc,dropH σ.hp b⟩):Sub d c value slice (.obj a) (.int k) σ K:=iv_ri fun g s r t=>by
  refine elEEA (r.ob a _ hp).2.2.2 fun items n e z=>?_
  refine elEA (z.get hv) fun cv e1 r1=>?_
  cases r1 with | raw _ =>
   refine elE (r.freeze hb (loc':=σ.loc) fun _ _ e=>.inl e) fun g' zz34=>?_;obtain r':=zz34.1;obtain k':=zz34.2.1;obtain rv:=zz34.2.2
   exact sub_ops (T:="list") ⟨_,e,rfl⟩ slot_list_getitem.lookup (wpAny_getItem_list (IsL.isList e) h0 hhi (by simpa using e1) ⟨g',_,_,r',k',rv,h⟩)
noncomputable def nmI:Nat->Fin 4
 | 0=>2
 | 1=>1
 | _=>3
noncomputable def overK (keys:List Key) (p:Int):Key:=if p>=0 then keys.getD p.toNat [] else []
noncomputable def cntK (keys:List Key) (over:Key):Nat:=(keys.filter fun one=>decide (one.dropLast=over)).length
noncomputable def nextK (keys:List Key) (p:Int):Option Key:=if p < keys.length/\cntK keys (overK keys p) < 3 then some (overK keys p++[nmI (cntK keys (overK keys p))]) else none
noncomputable def runB:List Int->List Key->Option (List Key)
 | [],ks=>some ks
 | p::ps,ks=>(nextK ks p).bind fun k=>runB ps (ks++[k])
noncomputable def trees:List (List Key):=[-1,0].flatMap fun a=>[-1,0,1].flatMap fun b=>[0,1,2].filterMap fun c=>runB [-1,a,b,c] []
noncomputable def sortP (U:List Key):Option (Array Nat):=runT 4 (fun i j=>kLt (U.getD i []) (U.getD j [])) (kas_sort 4)
noncomputable def sortK (U:List Key):List Key:=((sortP U).getD #[]).toList.map fun i=>U.getD i []
theorem trees_ok:∀ U∈trees,U.length=4/\(∀ k∈U,k≠[])/\(sortP U).isSome=true/\∀ i∈((sortP U).getD #[]).toList,i < 4:=by decide +kernel
theorem trees_all:∀ a∈[-1,0],∀ b∈[-1,0,1],∀ c∈[0,1,2],∃ U∈trees,runB [-1,a,b,c] []=some U:=by decide +kernel
noncomputable def msOf (mk:Nat->Nat) (n:Nat) (U:List Key) (i:Nat):List Key:=((List.range n).filter fun q=>decide (mk q=i)).map fun q=>U.getD q []
theorem msOf_step {mk:Nat->Nat} {U:List Key} {k:Key} {i:Nat}:msOf mk (U.length+1) (U++[k]) i=if mk U.length=i then msOf mk U.length U i++[k] else msOf mk U.length U i:=by
 delta msOf
 obtain e:((List.range U.length).filter fun q=>decide (mk q=i)).map (fun q=>(U++[k]).getD q [])=((List.range U.length).filter fun q=>decide (mk q=i)).map fun q=>U.getD q []:=by
  refine List.map_congr_left fun q hq=>?_
  obtain this:=List.mem_range.mp (List.mem_filter.mp hq).1
  simp only[List.getD_eq_getElem?_getD,List.getD_eq_getElem?_getD,List.getElem?_append_left this]
 simp only[List.range_succ,List.filter_append,List.map_append,e]
 split
 ·rename_i h
  rw[List.filter_cons_of_pos (by simp[h])]
  simp
 ·rename_i h
  rw[List.filter_cons_of_neg (by simpa using h)];simp
theorem msOf_le (mk:Nat->Nat) (n:Nat) (U:List Key) (i:Nat):(msOf mk n U i).length<=n:=by
 delta msOf
 simp only[List.length_map]
 exact Nat.le_trans (List.length_filter_le ..) (by simp)
noncomputable def plF (cs:List Int) (k:Nat):Int:=(cs.getD k 0).fmod ([1,2,3,3].getD k 0) - [1,1,1,0].getD k 0
noncomputable def mkF (cs:List Int) (k:Nat):Nat:=(((cs.getD k 0).fdiv 6).fmod 3).toNat
theorem mkF_lt (cs:List Int) (k:Nat):mkF cs k < 3:=by
 unfold mkF
 have h1:=Int.fmod_lt_of_pos ((cs.getD k 0).fdiv 6) (b:=3) (by omega)
 have h2:=Int.fmod_nonneg_of_pos ((cs.getD k 0).fdiv 6) (b:=3) (by omega)
 exact Y26 h1
theorem mkF_eq (cs:List Int) (k:Nat):((cs.getD k 0).fdiv 6).fmod 3=(mkF cs k:Int):=by
 unfold mkF
 have h2:=Int.fmod_nonneg_of_pos ((cs.getD k 0).fdiv 6) (b:=3) (by omega)
 exact Y19 h2
theorem i2 {x:Int} (h:0<=x/\x < 2):x∈[(0:Int),1]:=by simp only[List.mem_cons,List.not_mem_nil,or_false];exact Y20 h
theorem i3 {x:Int} (h:0<=x/\x < 3):x∈[(0:Int),1,2]:=by simp only[List.mem_cons,List.not_mem_nil,or_false];exact Y21 h
theorem pl_tree (cs:List Int):∃ U∈trees,runB ((List.range' 0 4).map (plF cs)) []=some U:=by
 have z:∀ (k:Nat) (m:Int),0 < m->0<=(cs.getD k 0).fmod m/\(cs.getD k 0).fmod m < m:=fun k m hm=>⟨Int.fmod_nonneg_of_pos _ hm,Int.fmod_lt_of_pos _ hm⟩
 have e0:plF cs 0 = -1:=congrArg (· - 1) (Int.fmod_one (cs.getD 0 0))
 have:=trees_all _ (List.mem_map_of_mem (f:=(· - 1)) (i2 (z 1 2 (by decide)))) _ (List.mem_map_of_mem (f:=(· - 1)) (i3 (z 2 3 (by decide)))) _ (List.mem_map_of_mem (f:=(· - 0)) (i3 (z 3 3 (by decide))))
 rw[<- e0] at this
 exact this
structure BS (hp0 hp:Addr->Option AO) (Cc Kc Mc:Addr) (A:Nat->Addr) (cs:List Int) (keys:List Key):Prop where
 old:∀ b ao,hp0 b=some ao->hp b=some ao
 ce:hp Cc=some (.list (cs.map V.int))
 ke:hp Kc=some (.list (keys.map kV))
 out:hp Mc=some (.list [.obj (A 0),.obj (A 1),.obj (A 2)])
 ins:∀ i,i < 3->hp (A i)=some (.list ((msOf (mkF cs) keys.length keys i).map kV))
 fK:hp0 Kc=none
 fA:∀ i,i < 3->hp0 (A i)=none
 KC:Kc≠Cc
 KM:Kc≠Mc
 AK:∀ i,i < 3->A i≠Kc
 AC:∀ i,i < 3->A i≠Cc
 AM:∀ i,i < 3->A i≠Mc
 inj:∀ i j,i < 3->j < 3->A i=A j->i=j
theorem BS.step {hp0 hp:Addr->Option AO} {Cc Kc Mc:Addr} {A:Nat->Addr} {cs:List Int} {keys:List Key} {k:Key} (H:BS hp0 hp Cc Kc Mc A cs keys) :
  BS hp0 (updH (updH hp Kc (.list (keys.map kV++[kV k]))) (A (mkF cs keys.length)) (.list ((msOf (mkF cs) keys.length keys (mkF cs keys.length)).map kV++[kV k]))) Cc Kc Mc A cs (keys++[k]):=by
 obtain hm:=mkF_lt cs keys.length
 refine ⟨fun b ao e=>(updH_ne fun q=>?_).trans ((updH_ne fun q=>?_).trans (H.old b ao e)),(updH_ne (Ne.symm (H.AC _ hm))).trans ((updH_ne (Ne.symm H.KC)).trans H.ce),(updH_ne (Ne.symm (H.AK _ hm))).trans (by simp only[List.map_append];exact updH_at),
  (updH_ne (Ne.symm (H.AM _ hm))).trans ((updH_ne (Ne.symm H.KM)).trans H.out),fun i hi=>?_,H.fK,H.fA,H.KC,H.KM,H.AK,H.AC,H.AM,H.inj⟩
 ·simp only[q,H.fA _ hm] at e;cases e
 ·simp only[q,H.fK] at e;cases e
 ·rw[show (keys++[k]).length=keys.length+1 by simp,msOf_step]
  by_cases e:mkF cs keys.length=i
  ·rw[if_pos e,<- e,List.map_append];exact updH_at
  ·rw[if_neg e]
   exact (updH_ne fun q=>e (H.inj _ _ hm hi q.symm)).trans ((updH_ne (H.AK _ hi)).trans (H.ins i hi))
noncomputable def fd216 (P:Params):FuncData:=fnData (o216 P)
theorem ok216 (d:Wd):FnOk d 216 (fd216 d.w.params) (kidS S13) [ofS "script"]:=⟨⟨o216 d.w.params,by kernel_rfl!,by kernel_rfl!⟩,by kernel_rfl!,by kernel_rfl!,by kernel_rfl!,fun L=>by kernel_rfl!,by kernel_rfl!,by kernel_rfl!,by kernel_rfl!,by kernel_rfl!,by kernel_rfl!,by kernel_rfl!⟩
theorem int_row {ns:List Int} {k:Nat} (hk:k < ns.length):(ns.map V.int)[((k:Int)).toNat]? = some (V.int (ns.getD k 0)):=by
 simp only[Int.toNat_natCast,List.getElem?_map,List.getD_eq_getElem?_getD,List.getElem?_eq_getElem hk];rfl
theorem board_spec {ns:List Int} {K:V->St->Prop} (R:Rm c.A 1) (hz:ns.length<=1000)
  (h:∀ U∈trees,∀ mk:Nat->Nat,∀ hp',(∀ b ao,σ.hp b=some ao->hp' b=some ao)->K (bV ⟨sortK U,msOf mk 4 U 1,msOf mk 4 U 2⟩) ⟨σ.loc,hp'⟩):CallV d c (.ref 216) [.lst (ns.map V.int)] [] σ K:=by
 refine CallV_ok (bs:=[(ofS "script",.lst (ns.map V.int))]) (ok216 d) R.room (bind1 fun u=>rfl) (fun L=>?_)
 obtain R':Rm (cxOf c.A (fd216 d.w.params) L 216).A 0:=R.in
 refine WB_cons ?_
 walk_at "w"
 refine W_ListM ?_
 walk_at "w"
 refine ⟨by simp,fun Cc fC=>?_⟩
 walk_at "w"
 refine WS_For (fun _ _ q=>q) R'.handled ?_
 walk_at "w"
 refine call_len rfl (by simpa using hz) ?_
 simp only[List.length_map]
 walk_at "w"
 refine call_range ?_
 refine ⟨_,_,iter_rng hz,?_⟩
 simp only[show rInts ns.length=(List.range' 0 ns.length).map (fun i:Nat=>V.int (i:Int)) from by delta rInts;simp only[List.range_eq_range']]
 refine (fun G:(∀ (n m:Nat) (cs:List Int) (hp':Addr->Option AO) (l:List (Str×V)),m+n=ns.length->cs.length=4->hp'=updH σ.hp Cc (.list (cs.map V.int))->LocIn (lk l) [(ofS "script",.lst (ns.map V.int)),(ofS "cells",.obj Cc)] ->
   ForRun d _ _ _ _ _ _ ((List.range' m n).map fun i:Nat=>V.int (i:Int)) ⟨lk l,hp'⟩)=>G ns.length 0 [0,13,4,1] _ _ Y32 rfl rfl ⟨by walk_at "l",by walk_at "l",trivial⟩) ?_
 intro n
 induction n with
 | succ n ih =>
  intro m cs hp' l hm hc he hl
  subst he
  refine (fun G:ForRun d _ _ _ _ _ _ _ ⟨lk [(ofS "script",.lst (ns.map V.int)),(ofS "cells",.obj Cc)],_⟩=>ForRun.sub (le_loc hl) G) ?_
  refine (?_:Asg d _ _ _ _ _)
  obtain g1:=Int.fmod_lt_of_pos (m:Int) (b:=4) (by omega)
  obtain g2:=Int.fmod_nonneg_of_pos (m:Int) (b:=4) (by omega)
  obtain hj:((m:Int).fmod 4)=(((m:Int).fmod 4).toNat:Int):=Y19 g2
  walk_at "w"
  refine WS_AugSub ?_
  walk_at "w"
  refine bin_mod (by decide) ?_
  rw[hj]
  generalize hg:((m:Int).fmod 4).toNat=j at *
  refine get_list updH_at (Int.natCast_nonneg _) (Y27 g1 hg) (int_row (Y115 hc g1 hg)) ?_
  walk_at "w"
  refine sub_lst (Int.natCast_nonneg _) (Y224 hz hm) (int_row (Y212 hm)) ?_
  refine inp_add ?_
  refine set_list updH_at Y35 (by simp;exact Y115 hc g1 hg) (by simp;exact Y68 hc) ?_
  walk_at "w"
  refine ⟨trivial,ih (m+1) (cs.set j (cs.getD j 0+ns.getD m 0)) _ _ (Y207 hm) (by simpa using hc) ?_ ⟨by walk_at "l",by walk_at "l",trivial⟩⟩
  simp only[Int.toNat_natCast,<- List.map_set]
  exact upd_upd
 | zero =>
  intro m cs hp' l hm hc he hl
  subst he
  clear hm
  refine (fun G:WB d _ _ ⟨lk [(ofS "script",.lst (ns.map V.int)),(ofS "cells",.obj Cc)],_⟩ _=>Ev.sub (le_loc hl) G) ?_
  walk_at "w"
  refine W_ListM ?_
  walk_at "w"
  refine ⟨by simp,fun Kc fK=>?_⟩
  walk_at "w"
  refine W_ListM ?_
  walk_at "w"
  refine W_ListM ?_
  walk_at "w"
  refine ⟨by simp,fun a0 f0=>?_⟩
  walk_at "w"
  refine W_ListM ?_
  walk_at "w"
  refine ⟨by simp,fun a1 f1=>?_⟩
  walk_at "w"
  refine W_ListM ?_
  walk_at "w"
  refine ⟨by simp,fun a2 f2=>?_⟩
  walk_at "w"
  refine ⟨by simp,fun Mc fM=>?_⟩
  obtain nKC:=(updH_none fK).1;obtain gK:=(updH_none fK).2
  obtain n0K:=(updH_none f0).1;obtain g0:=(updH_none f0).2
  obtain n0C:=(updH_none g0).1;obtain g0:=(updH_none g0).2
  obtain n10:=(updH_none f1).1;obtain g1:=(updH_none f1).2
  obtain n1K:=(updH_none g1).1;obtain g1:=(updH_none g1).2
  obtain n1C:=(updH_none g1).1;obtain g1:=(updH_none g1).2
  obtain n21:=(updH_none f2).1;obtain g2:=(updH_none f2).2
  obtain n20:=(updH_none g2).1;obtain g2:=(updH_none g2).2
  obtain n2K:=(updH_none g2).1;obtain g2:=(updH_none g2).2
  obtain n2C:=(updH_none g2).1;obtain g2:=(updH_none g2).2
  obtain nM2:=(updH_none fM).1;obtain gM:=(updH_none fM).2
  obtain nM1:=(updH_none gM).1;obtain gM:=(updH_none gM).2
  obtain nM0:=(updH_none gM).1;obtain gM:=(updH_none gM).2
  obtain nMK:=(updH_none gM).1;obtain gM:=(updH_none gM).2
  obtain nMC:=(updH_none gM).1;obtain gM:=(updH_none gM).2
  obtain H0:BS σ.hp (updH (updH (updH (updH (updH (updH σ.hp Cc (.list (cs.map V.int))) Kc (.list [])) a0 (.list [])) a1 (.list [])) a2 (.list [])) Mc (.list [.obj a0,.obj a1,.obj a2])) Cc Kc Mc (fun i=>[a0,a1,a2].getD i 0) cs []:=by
   refine ⟨fun b ao e=>?_,by walk_at "m up",by show _=some (AO.list []);walk_at "m up",updH_at,fun i hi=>?_,gK,fun i hi=>?_,nKC,Ne.symm nMK,fun i hi=>?_,fun i hi=>?_,fun i hi=>?_,fun i j hi hj e=>?_⟩
   ·obtain z:∀ {q},σ.hp q=none->b≠q:=fun z y=>by simp only[y,z] at e;cases e
    exact (updH_ne (z gM)).trans ((updH_ne (z g2)).trans ((updH_ne (z g1)).trans ((updH_ne (z g0)).trans ((updH_ne (z gK)).trans ((updH_ne (z fC)).trans e)))))
   ·refine lt3 (p:=fun i=>updH (updH (updH (updH (updH (updH σ.hp Cc (.list (cs.map V.int))) Kc (.list [])) a0 (.list [])) a1 (.list [])) a2 (.list [])) Mc (.list [.obj a0,.obj a1,.obj a2]) ([a0,a1,a2].getD i 0)=some (.list ((msOf (mkF cs) 0 [] i).map kV))) ?_ ?_ ?_ i hi
    all_goals (show _=some (AO.list []);walk_at "m up")
   ·exact lt3 (p:=fun i=>σ.hp ([a0,a1,a2].getD i 0)=none) g0 g1 g2 i hi
   ·exact lt3 (p:=fun i=>[a0,a1,a2].getD i 0≠Kc) n0K n1K n2K i hi
   ·exact lt3 (p:=fun i=>[a0,a1,a2].getD i 0≠Cc) n0C n1C n2C i hi
   ·exact lt3 (p:=fun i=>[a0,a1,a2].getD i 0≠Mc) (Ne.symm nM0) (Ne.symm nM1) (Ne.symm nM2) i hi
   ·exact inj3 (f:=fun i=>[a0,a1,a2].getD i 0) n10 n20 n21 i j hi hj e
  generalize (fun i=>[a0,a1,a2].getD i 0)=A at H0
  refine elE (pl_tree cs) fun U zz215=>?_;obtain hU:=zz215.1;obtain eU:=zz215.2
  walk_at "w"
  refine WS_For (fun _ _ q=>q) R'.handled ?_
  walk_at "w"
  refine call_range ?_
  refine ⟨_,_,iter_rng (n:=4) (by decide),?_⟩
  simp only[show rInts 4=(List.range' 0 4).map (fun i:Nat=>V.int (i:Int)) from by unfold rInts;simp only[List.range_eq_range']]
  refine (fun G:(∀ (n m:Nat) (keys:List Key) (hp':Addr->Option AO) (l:List (Str×V)),m+n=4->keys.length=m->(∀ k∈keys,k.length<=keys.length)->BS σ.hp hp' Cc Kc Mc A cs keys->runB ((List.range' m n).map (plF cs)) keys=some U->LocIn (lk l) [(ofS "cells",.obj Cc),(ofS "keys",.obj Kc),(ofS "marks",.obj Mc)] ->
   ForRun d _ _ _ _ _ _ ((List.range' m n).map fun i:Nat=>V.int (i:Int)) ⟨lk l,hp'⟩)=>G 4 0 [] _ _ Y4 rfl (fun _ h=>nomatch h) H0 eU ⟨by walk_at "l",by walk_at "l",by walk_at "l",trivial⟩) ?_
  clear H0 eU hl
  intro n
  induction n with
  | zero =>
   intro m keys hp' l hm hlen hkl H e hl
   cases e
   refine elAAA (trees_ok U hU) fun t1 t2 t3 t4=>?_
   refine (fun G:WB d _ _ ⟨lk [(ofS "cells",.obj Cc),(ofS "keys",.obj Kc),(ofS "marks",.obj Mc)],hp'⟩ _=>Ev.sub (le_loc hl) G) ?_
   walk_at "w"
   refine W_List ?_
   walk_at "w"
   refine elE (Option.isSome_iff_exists.mp t3) fun p hp=>?_
   refine call_sortedK (p:=p) (lstOf_obj H.ke) (Y64 t1) (Y66 t1) t2 (by simp only[t1];exact hp) (fun i hi=>by simp only[t1];exact t4 i (by simp only[hp];exact hi)) ?_
   walk_at "w"
   obtain n12:A 2≠A 1:=fun q=>nomatch H.inj 2 1 (by decide) (by decide) q
   obtain i1:=H.ins 1 (by decide)
   obtain i2:=H.ins 2 (by decide)
   obtain nM:Mc≠A 1:=Ne.symm (H.AM 1 (by decide))
   refine sub_listF (b:=A 1) H.out (Int.natCast_nonneg _) (by omega) rfl i1 ?_
   walk_at "w"
   refine sub_listF (b:=A 2) ((dropH_ne nM).trans H.out) (Int.natCast_nonneg _) (by omega) rfl ((dropH_ne n12).trans i2) ?_
   walk_at "w"
   refine ⟨by simp,?_⟩
   obtain e1:bV ⟨sortK U,msOf (mkF cs) 4 U 1,msOf (mkF cs) 4 U 2⟩ = .lst [ksV (p.toList.map fun i=>U.getD i []),ksV (msOf (mkF cs) U.length U 1),ksV (msOf (mkF cs) U.length U 2)]:=by
    delta bV sortK;simp only[hp,t1];rfl
   have:=h U hU (mkF cs) (dropH (dropH hp' (A 1)) (A 2)) fun b ao e=>(dropH_ne fun q=>?_).trans ((dropH_ne fun q=>?_).trans (H.old b ao e))
   ·simp only[e1] at this;exact this
   ·simp only[q,H.fA 2 (by decide)] at e;cases e
   ·simp only[q,H.fA 1 (by decide)] at e;cases e
  | succ n ih =>
   intro m keys hp' l hm hlen hkl H e hl
   subst hlen
   obtain hk4:keys.length < 4:=Y122 hm
   refine elE (Option.bind_eq_some_iff.mp e) fun key zz257=>?_;obtain ek:=zz257.1;obtain e:=zz257.2
   delta nextK at ek
   split at ek
   case isFalse=>cases ek
   rename_i hc2
   cases ek
   obtain hp1:=hc2.1;obtain hcnt:=hc2.2
   try clear hc2
   obtain hm:=mkF_lt cs keys.length
   refine (fun G:ForRun d _ _ _ _ _ _ _ ⟨lk [(ofS "cells",.obj Cc),(ofS "keys",.obj Kc),(ofS "marks",.obj Mc)],hp'⟩=>ForRun.sub (le_loc hl) G) ?_
   refine (?_:Asg d _ _ _ _ _)
   walk_at "w"
   refine sub_list H.ce (Int.natCast_nonneg _) (Y53 hk4) (int_row (Y187 hc hk4)) ?_
   walk_at "w"
   refine W_List ?_
   walk_at "w"
   refine ⟨by simp,?_⟩
   walk_at "w"
   refine sub_lst (Int.natCast_nonneg _) (Y53 hk4) (int_row (ns:=[1,2,3,3]) hk4) ?_
   refine bin_mod (by
    generalize keys.length=k at hk4
    exact lt4 (p:=fun k=>([1,2,3,3]:List Int).getD k 0≠0) (by decide) (by decide) (by decide) (by decide) k hk4) ?_
   walk_at "w"
   refine W_List ?_
   walk_at "w"
   refine ⟨by simp,?_⟩
   walk_at "w"
   refine sub_lst (Int.natCast_nonneg _) (Y53 hk4) (int_row (ns:=[1,1,1,0]) hk4) ?_
   refine bin_sub ?_
   refine (?_:AsgAll d _ _ (V.int (plF cs keys.length)) _ _)
   generalize hpl:plF cs keys.length=p at *
   obtain ov:∀ {e1 e2:Expr} {σ':St} {c':Cx} {K:V->St->Prop},(∀ K:V->St->Prop,0<=p->K (kV (keys.getD p.toNat [])) σ'->W d c' e1 σ' K)->(∀ K:V->St->Prop,K (kV []) σ'->W d c' e2 σ' K)->K (kV (overK keys p)) σ'->if decide (p>=0)=true then W d c' e1 σ' K else W d c' e2 σ' K:=fun h1 h2 h=>by
    delta overK at h
    by_cases q:p>=0
    ·rw[if_pos q] at h;simp only[q,decide_true,if_true];exact h1 _ q h
    ·rw[if_neg q] at h;simp only[q,decide_false,Bool.false_eq_true,if_false];exact h2 _ h
   walk_at "w"
   refine ov (fun K q h=>?_) (fun K h=>?_) ?_
   ·walk_at "w"
    refine sub_list H.ke q (Y17 hk4 hp1) ?_ h
    rw[List.getElem?_map,List.getD_eq_getElem?_getD,List.getElem?_eq_getElem (Y12 hp1 q)];rfl
   ·refine W_Tuple ?_
    walk_at "w"
    exact⟨by simp,h⟩
   generalize hov:overK keys p=over at *
   have hol:over.length<=keys.length:=by
    simp only[<- hov];delta overK
    split
    ·rw[List.getD_eq_getElem?_getD,List.getElem?_eq_getElem (Y13 hp1 ‹_›)]
     exact hkl _ (List.getElem_mem _)
    ·exact Nat.zero_le _
   walk_at "w"
   refine getM_list H.ke PySem.F.slot_list_append PySem.F.type_list_append ?_
   walk_at "w"
   refine W_Tuple ?_
   walk_at "w"
   refine W_List ?_
   walk_at "w"
   refine ⟨by simp,?_⟩
   walk_at "w"
   refine W_Cmp2 true (l:=[(ofS "over",kV over)]) (by kernel_rfl!) R'.handled ?_
   walk_at "w"
   refine ⟨_,_,iter_list H.ke,by simp;exact Y55 hk4,⟨by walk_at "l",trivial⟩,fun C0=>?_⟩
   refine comp_pure (e:=kV) (p:=fun one=>decide (one.dropLast=over)) (fun v=>[(ofS "over",kV over),(ofS "one",v)]) (by kernel_rfl!) (fun v=>by walk_at "p") (fun u v=>by walk_at "p") H.ke keys (fun one ho=>?_) (fun one _ _=>?_) _ ?_
   ·refine (?_:WT d _ _ _ _)
    walk_at "w"
    refine sub_cutM (by obtain this:=hkl one ho;exact Y184 hk4 this) ?_
    walk_at "w"
    refine cmp_eqK R' ?_
    walk_at "w"
    exact⟨rfl,rfl⟩
   ·walk_at "w"
    exact⟨rfl,rfl⟩
   refine (?_:WL d _ _ _ _ _)
   walk_at "w"
   refine call_len rfl ?_ ?_
   ·have:=List.length_filter_le (fun one=>decide (one.dropLast=over)) keys
    simp;exact Y184 hk4 this
   simp only[List.nil_append,List.length_map]
   change cntK keys over < 3 at hcnt
   refine (?_:Sub d _ _ _ _ (.int (cntK keys over:Nat)) _ _)
   generalize cntK keys over=cnt at hcnt e
   refine sub_lst (v:=nV (nmI cnt)) (Int.natCast_nonneg _) (Y52 hcnt) (by
    exact lt3 (p:=fun cnt=>([nV 2,nV 1,nV 3]:List V)[((cnt:Nat):Int).toNat]? = some (nV (nmI cnt))) rfl rfl rfl cnt hcnt) ?_
   walk_at "w"
   refine ⟨by simp,?_⟩
   refine bin_addT (by simp;exact Y184 hk4 hol) (by simp) ?_
   simp only[show over.map nV++[nV (nmI cnt)]=(over++[nmI cnt]).map nV by simp]
   walk_at "w"
   refine call_append H.ke (by simp;exact Y55 hk4) ?_
   obtain H2:=H.step (k:=over++[nmI cnt])
   walk_at "w"
   refine sub_list ((updH_ne (Ne.symm H.KC)).trans H.ce) Y35 (Y53 hk4) (int_row (Y187 hc hk4)) ?_
   walk_at "w"
   refine bin_div (by decide) (by delta Builtin.divisionGoesByPylong;rfl) ?_
   walk_at "w"
   refine bin_mod (by decide) ?_
   simp only[mkF_eq]
   obtain hA:[V.obj (A 0),V.obj (A 1),V.obj (A 2)][((mkF cs keys.length:Nat):Int).toNat]? = some (V.obj (A (mkF cs keys.length))):=by
    simp only[Int.toNat_natCast]
    generalize mkF cs keys.length=j at hm
    match j,hm with
    | 0,_=>rfl
    | 1,_=>rfl
    | 2,_=>rfl
   obtain hI:=(updH_ne (hp:=hp') (o:=.list (keys.map kV++[kV (over++[nmI cnt])])) (H.AK _ hm)).trans (H.ins _ hm)
   refine sub_list ((updH_ne (Ne.symm H.KM)).trans H.out) Y35 (Y52 hm) hA ?_
   refine getM_list hI PySem.F.slot_list_append PySem.F.type_list_append ?_
   walk_at "w"
   refine sub_list (v:=kV (over++[nmI cnt])) updH_at (Int.natCast_nonneg _) (Y53 hk4) (by rw[Int.toNat_natCast,List.getElem?_append_right (by simp)];simp;exact congrArg V.tup (@List.map_append _ _ nV over [nmI cnt]).symm) ?_
   walk_at "w"
   refine call_append (vs:=(msOf (mkF cs) keys.length keys (mkF cs keys.length)).map kV) hI (Nat.le_trans (by rw[List.length_map];exact msOf_le (mkF cs) keys.length keys (mkF cs keys.length)) (by exact Y55 hk4:keys.length<=1000)) ?_
   walk_at "w"
   refine ⟨trivial,ih (keys.length+1) (keys++[over++[nmI cnt]]) _ _ (by omega) (by simp) (fun k hk=>?_) H2 e ⟨by walk_at "l",by walk_at "l",by walk_at "l",trivial⟩⟩
   rcases List.mem_append.mp hk with hk | hk
   ·have:=hkl k hk;simp;exact Y175 this
   ·simp only[List.mem_singleton] at hk;subst hk;simp;exact Y174 hol
end
section
noncomputable def FG (Af Ar N:List Key):FM:=fun p=>if p≠[]/\∃ t∈Af++Ar++N,p <+: t then some ⟨decide (p∈Af),decide (p∈N),decide (p∈Ar),false⟩ else none
theorem FG_congr {Af Ar N Af' Ar' N':List Key} (h1:∀ p,p∈Af ↔ p∈Af') (h2:∀ p,p∈Ar ↔ p∈Ar') (h3:∀ p,p∈N ↔ p∈N'):FG Af Ar N=FG Af' Ar' N':=by
 funext p
 unfold FG
 obtain e:(p≠[]/\∃ t∈Af++Ar++N,p <+: t) ↔ (p≠[]/\∃ t∈Af'++Ar'++N',p <+: t):=by
  simp only[List.mem_append,h1,h2,h3]
 simp only[e,h1,h2,h3]
theorem FG_none:FG [] [] []=fun _=>none:=by
 funext p
 unfold FG
 rw[if_neg]
 intro zr0
 refine elAEA zr0 fun uu t h uu=>?_
 try clear zr0
 cases h
theorem FG_mem {Af Ar N:List Key} {p:Key} (h0:p≠[]) (h:p∈Af++Ar++N):FG Af Ar N p=some ⟨decide (p∈Af),decide (p∈N),decide (p∈Ar),false⟩:=if_pos ⟨h0,p,h,List.prefix_refl p⟩
theorem FG_absent {Af Ar N:List Key} {p:Key} (h:FG Af Ar N p=none):p=[]\/(p ∉ Af/\p ∉ Ar/\p ∉ N):=by
 by_cases h0:p=[]
 ·exact .inl h0
 ·right
  by_cases hm:p∈Af++Ar++N
  ·rw[FG_mem h0 hm] at h;cases h
  ·simp only[List.mem_append,not_or] at hm;exact⟨hm.1.1,hm.1.2,hm.2⟩
theorem setF_gen {Af Ar N Af' Ar' N':List Key} {k:Key} {e rc:Bool} (hk:k≠[])
  (hm:∀ t,t∈Af'++Ar'++N' ↔ t=k\/t∈Af++Ar++N)
  (ho:∀ p,p≠k->(p∈Af' ↔ p∈Af)/\(p∈Ar' ↔ p∈Ar)/\(p∈N' ↔ p∈N))
  (hs:(⟨decide (k∈Af'),decide (k∈N'),decide (k∈Ar'),false⟩:Mk)=addMk ⟨decide (k∈Af),decide (k∈N),decide (k∈Ar),false⟩ e rc):setF (FG Af Ar N) k e rc=FG Af' Ar' N':=by
 have gk:(FG Af Ar N k).getD mk0=⟨decide (k∈Af),decide (k∈N),decide (k∈Ar),false⟩:=by
  unfold FG
  split
  ·rfl
  ·rename_i h
   obtain this:k ∉ Af++Ar++N:=fun q=>h ⟨hk,k,q,List.prefix_refl k⟩
   simp only[List.mem_append,not_or] at this
   simp only[this.1.1,this.1.2,this.2,decide_false,Option.getD_none]
   rfl
 funext p
 unfold setF
 by_cases hp:p=k
 ·subst hp
  rw[if_pos rfl,gk,FG_mem hk ((hm p).mpr (.inl rfl)),hs]
 ·rw[if_neg hp]
  obtain o1:=(ho p hp).1;obtain o2:=(ho p hp).2.1;obtain o3:=(ho p hp).2.2
  unfold ensF
  by_cases h0:p≠[]/\p.isPrefixOf k=true
  ·rw[if_pos h0]
   obtain hpk:=List.isPrefixOf_iff_prefix.mp h0.2
   obtain e1:FG Af' Ar' N' p=some ⟨decide (p∈Af'),decide (p∈N'),decide (p∈Ar'),false⟩:=if_pos ⟨h0.1,k,(hm k).mpr (.inl rfl),hpk⟩
   simp only[e1]
   simp only[o1,o2,o3]
   cases e2:FG Af Ar N p with
   | some m =>
    delta FG at e2
    split at e2
    ·cases e2;rfl
    ·cases e2
   | none =>
    rcases FG_absent e2 with q | ⟨q1,q2,q3⟩
    ·exact absurd q h0.1
    ·simp only[q1,q2,q3,decide_false];rfl
  ·rw[if_neg h0]
   unfold FG
   obtain e:(p≠[]/\∃ t∈Af'++Ar'++N',p <+: t) ↔ (p≠[]/\∃ t∈Af++Ar++N,p <+: t):=by
    constructor
    ·intro zr0
     refine elAEA zr0 fun q1 t q2 q3=>?_
     try clear zr0
     rcases (hm t).mp q2 with rfl | q2
     ·exact absurd ⟨q1,List.isPrefixOf_iff_prefix.mpr q3⟩ h0
     ·exact⟨q1,t,q2,q3⟩
    ·intro zr0
     refine elAEA zr0 fun q1 t q2 q3=>?_
     try clear zr0
     exact⟨q1,t,(hm t).mpr (.inr q2),q3⟩
   simp only[e,o1,o2,o3]
theorem setF_N {Af Ar N:List Key} {k:Key} (hk:k≠[]):setF (FG Af Ar N) k true false=FG Af Ar (k::N):=setF_gen hk (fun t=>by simp only[List.mem_append,List.mem_cons];grind) (fun p hp=>by simp[hp]) (by unfold addMk;simp)
theorem setF_f {Af Ar N:List Key} {k:Key} (hk:k≠[]):setF (FG Af Ar N) k false false=FG (k::Af) Ar N:=setF_gen hk (fun t=>by simp only[List.mem_append,List.mem_cons];grind) (fun p hp=>by simp[hp]) (by unfold addMk;simp)
theorem setF_r {Af Ar N:List Key} {k:Key} (hk:k≠[]):setF (FG Af Ar N) k false true=FG Af (k::Ar) N:=setF_gen hk (fun t=>by simp only[List.mem_append,List.mem_cons];grind) (fun p hp=>by simp[hp]) (by unfold addMk;simp)
theorem cutF_FG {Af Ar N:List Key} {key:Key} (h:∀ p,p≠[]->p <+: key->p≠key->p∈N) :
  cutF (FG Af Ar N) key=FG (Af.filter fun p=>!key.isPrefixOf p) (Ar.filter fun p=>!key.isPrefixOf p) (N.filter fun p=>!key.isPrefixOf p):=by
 funext p
 unfold cutF
 by_cases hp:key.isPrefixOf p=true
 ·rw[if_pos hp]
  unfold FG
  rw[if_neg]
  intro zr0
  refine elAEA zr0 fun h0 t ht hpt=>?_
  try clear zr0
  have ht':(!key.isPrefixOf t)=true:=by
   simp only[List.mem_append,List.mem_filter] at ht
   rcases ht with (ht | ht) | ht<;>exact ht.2
  have:key <+: t:=(List.isPrefixOf_iff_prefix.mp hp).trans hpt
  rw[List.isPrefixOf_iff_prefix.mpr this] at ht'
  cases ht'
 ·rw[if_neg hp]
  obtain hp':(!key.isPrefixOf p)=true:=by simp only[Bool.not_eq_true] at hp;simp only[hp];rfl
  delta FG
  obtain e:(p≠[]/\∃ t∈Af++Ar++N,p <+: t) ↔ (p≠[]/\∃ t∈(Af.filter fun p=>!key.isPrefixOf p)++(Ar.filter fun p=>!key.isPrefixOf p)++(N.filter fun p=>!key.isPrefixOf p),p <+: t):=by
   constructor
   ·intro zr0
    refine elAEA zr0 fun h0 t ht hpt=>?_
    try clear zr0
    refine ⟨h0,?_⟩
    by_cases hkt:key.isPrefixOf t=true
    ·obtain hkt:=List.isPrefixOf_iff_prefix.mp hkt
     rcases List.prefix_or_prefix_of_prefix hpt hkt with q | q
     ·by_cases hpk:p=key
      ·subst hpk;exact absurd (List.isPrefixOf_iff_prefix.mpr (List.prefix_refl p)) hp
      ·exact⟨p,by simp only[List.mem_append,List.mem_filter];exact .inr ⟨h p h0 q hpk,hp'⟩,List.prefix_refl p⟩
     ·exact absurd (List.isPrefixOf_iff_prefix.mpr q) hp
    ·refine ⟨t,?_,hpt⟩
     obtain hkt':(!key.isPrefixOf t)=true:=by simp only[Bool.not_eq_true] at hkt;rw[hkt];rfl
     simp only[List.mem_append,List.mem_filter] at ht ⊢
     rcases ht with (ht | ht) | ht
     ·exact .inl (.inl ⟨ht,hkt'⟩)
     ·exact .inl (.inr ⟨ht,hkt'⟩)
     ·exact .inr ⟨ht,hkt'⟩
   ·intro zr0
    refine elAEA zr0 fun h0 t ht hpt=>?_
    try clear zr0
    refine ⟨h0,t,?_,hpt⟩
    simp only[List.mem_append,List.mem_filter] at ht ⊢
    rcases ht with (ht | ht) | ht
    ·exact .inl (.inl ht.1)
    ·exact .inl (.inr ht.1)
    ·exact .inr ht.1
  obtain m1:∀ l:List Key,decide (p∈l.filter fun p=>!key.isPrefixOf p)=decide (p∈l):=fun l=>by
   apply decide_eq_decide.mpr;simp only[List.mem_filter];exact⟨fun q=>q.1,fun q=>⟨q,hp'⟩⟩
  simp only[m1,m1,m1]
  simp only[e]
theorem isGo1 {Af Ar N:List Key} {l:Fin 4}:∀ (ks pre:Key),isGo (FG Af Ar N) 1 l pre ks=decide (pre++ks++[l]∈N):=by
 intro ks
 induction ks with
 | nil =>
  intro pre
  unfold isGo
  cases e:FG Af Ar N (pre++[l]) with
  | none =>
   rcases FG_absent e with q | ⟨_,_,q⟩
   ·simp at q
   ·simp[q]
  | some m =>
   unfold FG at e
   split at e
   ·cases e
    simp only[Mk.f,Mk.r,mkS]
    simp
   ·cases e
 | cons k ks ih =>
  intro pre
  unfold isGo
  cases e:FG Af Ar N (pre++[k]) with
  | none =>
   obtain this:pre++(k::ks)++[l] ∉ N:=fun q=>by
    have:FG Af Ar N (pre++[k])=some _:=if_pos ⟨by simp,_,List.mem_append_right _ q,⟨ks++[l],by simp⟩⟩
    rw[e] at this;cases this
   simp only[this,decide_false]
  | some m =>
   obtain hr:m.r 1=false:=by
    unfold FG at e
    split at e
    ·cases e;simp[Mk.r,mkS]
    ·cases e
   simp only[hr,Bool.false_or]
   rw[ih (pre++[k])]
   simp
theorem isM1 {Af Ar N:List Key} {one:Key} (h:one≠[]):isM (FG Af Ar N) 1 one=decide (one∈N):=by
 refine elEE (key_last h) fun init l hq2=>?_
 subst hq2
 delta isM
 simp only[List.getLast?_concat]
 simp only[List.dropLast_concat]
 simp only[isGo1];rfl
theorem isGo0 {Af Ar N:List Key} {l:Fin 4}:∀ (ks pre:Key),isGo (FG Af Ar N) 0 l pre ks=(decide (pre++ks++[l]∈Af)||decide (∃ p∈Ar,pre≠p/\pre <+: p/\p <+: pre++ks++[l])):=by
 intro ks
 induction ks with
 | nil =>
  intro pre
  unfold isGo
  obtain e2:(∃ p∈Ar,pre≠p/\pre <+: p/\p <+: pre++[]++[l]) ↔ pre++[l]∈Ar:=by
   constructor
   ·intro zr0
    refine elEAAA zr0 fun p h1 h2 h3 h4=>?_
    try clear zr0
    rw[List.append_nil] at h4
    rcases List.prefix_concat_iff.mp h4 with rfl | h4
    ·exact h1
    ·exact absurd (List.IsPrefix.eq_of_length_le h3 h4.length_le) h2
   ·intro h
    exact⟨_,h,by simp,⟨[l],rfl⟩,by simp⟩
  obtain e3:decide (∃ p∈Ar,pre≠p/\pre <+: p/\p <+: pre++[]++[l])=decide (pre++[l]∈Ar):=decide_eq_decide.mpr e2
  rw[e3,List.append_nil]
  cases e:FG Af Ar N (pre++[l]) with
  | none =>
   rcases FG_absent e with q | ⟨q1,q2,_⟩
   ·simp at q
   ·simp[q1,q2]
  | some m =>
   unfold FG at e
   split at e
   ·cases e
    simp only[Mk.f,Mk.r,mkS]
    simp
   ·cases e
 | cons k ks ih =>
  intro pre
  unfold isGo
  obtain e2:(∃ p∈Ar,pre≠p/\pre <+: p/\p <+: pre++(k::ks)++[l]) ↔ (pre++[k]∈Ar\/∃ p∈Ar,pre++[k]≠p/\pre++[k] <+: p/\p <+: pre++[k]++ks++[l]):=by
   obtain hx:pre++(k::ks)++[l]=pre++[k]++ks++[l]:=by simp
   rw[hx]
   constructor
   ·intro zr0
    refine elEAAA zr0 fun p h1 h2 h3 h4=>?_
    try clear zr0
    by_cases hq:pre++[k]=p
    ·subst hq;exact .inl h1
    ·right
     refine ⟨p,h1,hq,?_,h4⟩
     rcases List.prefix_or_prefix_of_prefix h4 (⟨ks++[l],by simp⟩:pre++[k] <+: pre++[k]++ks++[l]) with q | q
     ·rcases List.prefix_concat_iff.mp q with z | z
      ·exact absurd z.symm hq
      ·exact absurd (List.IsPrefix.eq_of_length_le h3 z.length_le) h2
     ·exact q
   ·rintro (h | ⟨p,h1,h2,h3,h4⟩)
    ·exact⟨_,h,by simp,⟨[k],rfl⟩,⟨ks++[l],by simp⟩⟩
    ·refine ⟨p,h1,fun q=>?_,List.IsPrefix.trans ⟨[k],rfl⟩ h3,h4⟩
     obtain this:=h3.length_le
     rw[<- q] at this;simp at this;exact (Y48 this).elim
  obtain e3:decide (∃ p∈Ar,pre≠p/\pre <+: p/\p <+: pre++(k::ks)++[l])=decide (pre++[k]∈Ar\/∃ p∈Ar,pre++[k]≠p/\pre++[k] <+: p/\p <+: pre++[k]++ks++[l]):=decide_eq_decide.mpr e2
  simp only[e3]
  cases e:FG Af Ar N (pre++[k]) with
  | none =>
   have z:∀ t∈Af++Ar++N,¬ pre++[k] <+: t:=fun t ht q=>by
    have:FG Af Ar N (pre++[k])=some _:=if_pos ⟨by simp,t,ht,q⟩
    simp only[e] at this;cases this
   obtain z1:pre++(k::ks)++[l] ∉ Af:=fun q=>z _ (by simp only[List.mem_append];exact .inl (.inl q)) ⟨ks++[l],by simp⟩
   obtain z2:¬ (pre++[k]∈Ar\/∃ p∈Ar,pre++[k]≠p/\pre++[k] <+: p/\p <+: pre++[k]++ks++[l]):=by
    rintro (q | ⟨p,h1,h2,h3,h4⟩)
    ·exact z _ (by simp only[List.mem_append];exact .inl (.inr q)) (List.prefix_refl _)
    ·exact z _ (by simp only[List.mem_append];exact .inl (.inr h1)) h3
   simp only[z1,z2,decide_false,Bool.or_self]
  | some m =>
   obtain hr:m.r 0=decide (pre++[k]∈Ar):=by
    unfold FG at e
    split at e
    ·cases e;simp[Mk.r,mkS]
    ·cases e
   simp only[hr]
   simp only[ih (pre++[k]),Bool.decide_or]
   obtain hx:pre++(k::ks)++[l]=pre++[k]++ks++[l]:=by simp
   simp only[hx]
   cases decide (pre++[k]∈Ar)<;>cases decide (pre++[k]++ks++[l]∈Af)<;>simp
theorem isM0 {Af Ar N:List Key} {one:Key} (h:one≠[]):isM (FG Af Ar N) 0 one=(decide (one∈Af)||decide (∃ p∈Ar,[]≠p/\p <+: one)):=by
 refine elEE (key_last h) fun init l hq2=>?_
 subst hq2
 delta isM
 simp only[List.getLast?_concat]
 simp only[List.dropLast_concat]
 simp only[isGo0]
 simp
end
section
theorem take_pre (key one:Key):decide (one.take key.length=key)=key.isPrefixOf one:=by
 rw[Bool.eq_iff_iff,decide_eq_true_iff,List.isPrefixOf_iff_prefix,List.prefix_iff_eq_take]
 exact⟨fun h=>h.symm,fun h=>h.symm⟩
theorem kLt_asymm:∀ {a b:Key},kLt a b=true->kLt b a=false
 | [],[],h=>by cases h
 | [],_::_,_=>rfl
 | _::_,[],h=>by cases h
 | a::k,b::l,h=>by
  unfold kLt at h ⊢
  by_cases e:a=b
  ·subst e
   rw[if_pos rfl] at h ⊢
   exact kLt_asymm h
  ·rw[if_neg e] at h
   rw[if_neg (Ne.symm e)]
   simp only[decide_eq_true_iff] at h
   exact decide_eq_false (by omega)
theorem sld_left {q:Key->Bool}:∀ {pos:List Key} {n:Nat},Asc pos->pos.length+(pos.filter q).length<=n->sld n pos (pos.filter q)=(pos.filter (fun k=>!q k),[])
 | [],n,_,_=>by cases n<;>rfl
 | x::xs,0,_,h=>by simp at h
 | x::xs,n+1,ha,h=>by
  have ha':Asc xs:=(List.pairwise_cons.mp ha).2
  have hx:=(List.pairwise_cons.mp ha).1
  cases hq:q x with
  | true =>
   have e1:(x::xs).filter q=x::xs.filter q:=List.filter_cons_of_pos hq
   have e2:(x::xs).filter (fun k=>!q k)=xs.filter (fun k=>!q k):=List.filter_cons_of_neg (by simp[hq])
   rw[e1,e2]
   rw[e1] at h
   simp only[List.length_cons] at h
   unfold sld
   rw[kLt_irr]
   simp only[Bool.false_eq_true,if_false]
   exact sld_left ha' (Y215 h)
  | false =>
   have e1:(x::xs).filter q=xs.filter q:=List.filter_cons_of_neg (by simp[hq])
   have e2:(x::xs).filter (fun k=>!q k)=x::xs.filter (fun k=>!q k):=List.filter_cons_of_pos (by simp[hq])
   rw[e1,e2]
   rw[e1] at h
   simp only[List.length_cons] at h
   have ih:=sld_left (q:=q) (n:=n) ha' (Y216 h)
   cases hy:xs.filter q with
   | nil =>
    have:∀ z∈xs,q z=false:=fun z hz=>by
     cases e:q z with
     | false=>rfl
     | true =>
      have:z∈xs.filter q:=List.mem_filter.mpr ⟨hz,e⟩
      rw[hy] at this;cases this
    rw[List.filter_eq_self.mpr fun z hz=>by simp[this z hz]]
    rfl
   | cons y ys =>
    rw[hy] at ih
    have:y∈xs:=(List.mem_filter.mp (by rw[hy];exact .head _:y∈xs.filter q)).1
    unfold sld
    rw[if_pos (hx y this),ih]
theorem sld_right {q:Key->Bool}:∀ {pos:List Key} {n:Nat},Asc pos->pos.length+(pos.filter q).length<=n->sld n (pos.filter q) pos=([],pos.filter (fun k=>!q k))
 | [],n,_,_=>by cases n<;>rfl
 | x::xs,0,_,h=>by simp at h
 | x::xs,n+1,ha,h=>by
  have ha':Asc xs:=(List.pairwise_cons.mp ha).2
  have hx:=(List.pairwise_cons.mp ha).1
  cases hq:q x with
  | true =>
   have e1:(x::xs).filter q=x::xs.filter q:=List.filter_cons_of_pos hq
   have e2:(x::xs).filter (fun k=>!q k)=xs.filter (fun k=>!q k):=List.filter_cons_of_neg (by simp[hq])
   rw[e1,e2]
   rw[e1] at h
   simp only[List.length_cons] at h
   unfold sld
   rw[kLt_irr]
   simp only[Bool.false_eq_true,if_false]
   exact sld_right ha' (Y215 h)
  | false =>
   have e1:(x::xs).filter q=xs.filter q:=List.filter_cons_of_neg (by simp[hq])
   have e2:(x::xs).filter (fun k=>!q k)=x::xs.filter (fun k=>!q k):=List.filter_cons_of_pos (by simp[hq])
   rw[e1,e2]
   rw[e1] at h
   simp only[List.length_cons] at h
   have ih:=sld_right (q:=q) (n:=n) ha' (Y216 h)
   cases hy:xs.filter q with
   | nil =>
    have:∀ z∈xs,q z=false:=fun z hz=>by
     cases e:q z with
     | false=>rfl
     | true =>
      have:z∈xs.filter q:=List.mem_filter.mpr ⟨hz,e⟩
      rw[hy] at this;cases this
    rw[List.filter_eq_self.mpr fun z hz=>by simp[this z hz],sld_nil1]
   | cons y ys =>
    rw[hy] at ih
    have:y∈xs:=(List.mem_filter.mp (by rw[hy];exact .head _:y∈xs.filter q)).1
    unfold sld
    rw[kLt_asymm (hx y this)]
    simp only[Bool.false_eq_true,if_false]
    rw[if_pos (hx y this),ih]
structure Stand (b:Bd) (pos:List Key):Prop where
 asc:Asc pos
 ne:∀ k∈pos,k≠[]
 cl:∀ k∈pos,∀ p,p≠[]->p <+: k->p∈pos
 sub:∀ k∈pos,k∈b.keys
 len:pos.length<=4
noncomputable def leftK (pos:List Key) (key:Key):List Key:=pos.filter fun k=>!key.isPrefixOf k
noncomputable def fallK (pos:List Key) (key:Key):List Key:=pos.filter fun k=>key.isPrefixOf k
noncomputable def afB (b:Bd) (pos:List Key):List Key:=pos.filter fun k=>decide (k∈b.m1) && !decide (k∈b.m2)
noncomputable def arB (b:Bd) (pos:List Key):List Key:=pos.filter fun k=>decide (k∈b.m2)
noncomputable def FB (b:Bd) (pos:List Key):FM:=FG (afB b pos) (arB b pos) pos
theorem Asc.filter {l:List Key} {q:Key->Bool} (h:Asc l):Asc (l.filter q):=List.Pairwise.filter q h
theorem Stand.left {b:Bd} {pos:List Key} {key:Key} (h:Stand b pos):Stand b (leftK pos key):=by
 refine ⟨h.asc.filter,fun k hk=>h.ne k (List.mem_filter.mp hk).1,fun k hk p hp hpk=>?_,fun k hk=>h.sub k (List.mem_filter.mp hk).1,Nat.le_trans (List.length_filter_le ..) h.len⟩
 refine elA (List.mem_filter.mp hk) fun h1 h2=>?_
 refine List.mem_filter.mpr ⟨h.cl k h1 p hp hpk,?_⟩
 cases e:key.isPrefixOf p with
 | false=>rfl
 | true =>
  have:=(List.isPrefixOf_iff_prefix.mp e).trans hpk
  rw[List.isPrefixOf_iff_prefix.mpr this] at h2
  cases h2
theorem leftK_lt {pos:List Key} {key:Key} (h:key∈pos):(leftK pos key).length < pos.length:=by
 unfold leftK
 refine List.length_filter_lt_length_iff_exists.mpr ⟨key,h,?_⟩
 simp
theorem cut_FB {b:Bd} {pos:List Key} {key:Key} (h:Stand b pos) (hk:key∈pos):cutF (FB b pos) key=FB b (leftK pos key):=by
 unfold FB
 rw[cutF_FG fun p h0 hp _=>h.cl key hk p h0 hp]
 unfold afB arB leftK
 rw[List.filter_filter,List.filter_filter,List.filter_filter,List.filter_filter]
 congr 1<;>congr 1<;>funext k<;>rw[Bool.and_comm]
theorem cut_again {b:Bd} {pos:List Key} {key one:Key} (h:Stand b pos) (hk:key∈pos) (ho:one∈fallK pos key):cutF (FB b (leftK pos key)) one=FB b (leftK pos key):=by
 funext p
 unfold cutF
 split
 ·rename_i hp
  symm
  unfold FB FG
  rw[if_neg]
  intro zr0
  refine elAEA zr0 fun h0 t ht hpt=>?_
  try clear zr0
  have ht':t∈leftK pos key:=by
   simp only[List.mem_append] at ht
   rcases ht with (ht | ht) | ht
   ·exact (List.mem_filter.mp ht).1
   ·exact (List.mem_filter.mp ht).1
   ·exact ht
  have h1:=(List.isPrefixOf_iff_prefix.mp (List.mem_filter.mp ho).2).trans ((List.isPrefixOf_iff_prefix.mp hp).trans hpt)
  have h2:=(List.mem_filter.mp ht').2
  rw[List.isPrefixOf_iff_prefix.mpr h1] at h2
  cases h2
 ·rfl
theorem nest_FB {b:Bd} {pos:List Key} {one:Key} (h:one≠[]):isM (FB b pos) 1 one=decide (one∈pos):=isM1 h
theorem left_eq {b:Bd} {pos:List Key} {key:Key} (h:Stand b pos):(pos.filter fun one=>isM (FB b (leftK pos key)) 1 one)=leftK pos key:=by
 unfold leftK
 refine List.filter_congr fun k hk=>?_
 rw[nest_FB (h.ne k hk),Bool.eq_iff_iff,decide_eq_true_iff,List.mem_filter]
 exact⟨fun q=>q.2,fun q=>⟨hk,q⟩⟩
theorem owner_FB {b:Bd} {pos:List Key} {key:Key} (h:Stand b pos) (hk:key∈pos) (hm2:∀ k∈b.m2,k≠[]):isM (FB b pos) 0 key=mineM b key:=by
 unfold FB
 rw[isM0 (h.ne key hk)]
 unfold mineM afB arB
 rw[Bool.eq_iff_iff]
 simp only[Bool.or_eq_true,decide_eq_true_iff,List.mem_filter,Bool.and_eq_true,Bool.not_eq_true',decide_eq_false_iff_not]
 rw[List.filter_eq_nil_iff]
 constructor
 ·rintro (⟨_,q,_⟩ | ⟨p,⟨q1,q2⟩,q3,q4⟩)
  ·exact .inl q
  ·right
   intro z
   exact z p q2 (by rw[decide_eq_true_iff];exact (List.prefix_iff_eq_take.mp q4).symm)
 ·rintro (q | q)
  ·by_cases e:key∈b.m2
   ·exact .inr ⟨key,⟨hk,e⟩,Ne.symm (h.ne key hk),List.prefix_refl key⟩
   ·exact .inl ⟨hk,q,e⟩
  ·right
   by_cases z:∃ p∈b.m2,p <+: key
   ·refine elEA z fun p z1 z2=>?_;try clear z
    exact⟨p,⟨h.cl key hk p (hm2 p z1) z2,z1⟩,Ne.symm (hm2 p z1),z2⟩
   ·exact absurd (fun p hp e=>z ⟨p,hp,List.prefix_iff_eq_take.mpr (decide_eq_true_iff.mp e).symm⟩) q
noncomputable def overF (b:Bd) (key:Key):Bool:=!decide ((b.m2.filter fun one=>decide (one.length < key.length)&&decide (key.take one.length=one))=[])
theorem held_FB {b:Bd} {pos:List Key} {key one:Key} (h:Stand b pos) (hk:key∈pos) (ho:one∈fallK pos key) (hm2:∀ k∈b.m2,k≠[]):isM (FB b (leftK pos key)) 0 one=overF b key:=by
 refine elA (List.mem_filter.mp ho) fun ho1 ho2=>?_
 have hko:=List.isPrefixOf_iff_prefix.mp ho2
 have hnl:one ∉ leftK pos key:=fun q=>by
  have:=(List.mem_filter.mp q).2
  rw[ho2] at this;cases this
 unfold FB
 rw[isM0 (h.ne one ho1)]
 have e1:one ∉ afB b (leftK pos key):=fun q=>hnl (List.mem_filter.mp q).1
 rw[decide_eq_false e1,Bool.false_or]
 unfold overF
 rw[Bool.eq_iff_iff]
 simp only[decide_eq_true_iff,Bool.not_eq_true',decide_eq_false_iff_not]
 rw[List.filter_eq_nil_iff]
 constructor
 ·intro zr0 z
  refine elEAA zr0 fun p q1 q2 q3=>?_
  try clear zr0
  refine elA (List.mem_filter.mp q1) fun r1 r2=>?_
  have hpk:p <+: key/\p.length < key.length:=by
   have hn:¬ key <+: p:=fun y=>by
    have:=(List.mem_filter.mp r1).2
    rw[List.isPrefixOf_iff_prefix.mpr y] at this;cases this
   rcases List.prefix_or_prefix_of_prefix q3 hko with y | y
   ·refine ⟨y,Nat.lt_of_le_of_ne y.length_le fun e=>hn ?_⟩
    rw[List.IsPrefix.eq_of_length y e];exact List.prefix_refl _
   ·exact absurd y hn
  refine z p (decide_eq_true_iff.mp r2) ?_
  rw[Bool.and_eq_true,decide_eq_true_iff,decide_eq_true_iff]
  exact⟨hpk.2,(List.prefix_iff_eq_take.mp hpk.1).symm⟩
 ·intro z
  by_cases y:∃ p∈b.m2,p.length < key.length/\key.take p.length=p
  ·refine elEAA y fun p y1 y2 y3=>?_;try clear y
   have hpk:p <+: key:=List.prefix_iff_eq_take.mpr y3.symm
   refine ⟨p,List.mem_filter.mpr ⟨List.mem_filter.mpr ⟨h.cl key hk p (hm2 p y1) hpk,?_⟩,decide_eq_true_iff.mpr y1⟩,Ne.symm (hm2 p y1),hpk.trans hko⟩
   cases e:key.isPrefixOf p with
   | false=>rfl
   | true=>have:=(List.isPrefixOf_iff_prefix.mp e).length_le;exact (Y156 y2 this).elim
  ·exact absurd (fun p hp e=>y ⟨p,hp,by rw[Bool.and_eq_true,decide_eq_true_iff,decide_eq_true_iff] at e;exact e⟩) z
noncomputable def backF (b:Bd) (F:FM) (one:Key):FM:=if decide (one∈b.m1)||decide (one∈b.m2) then setF (setF F one true false) one false (decide (one∈b.m2)) else setF F one true false
theorem back_FG {b:Bd} {L T:List Key} {one:Key} (h1:one≠[]):backF b (FG (afB b (T++L)) (arB b (T++L)) (T++L)) one=FG (afB b (one::T++L)) (arB b (one::T++L)) (one::T++L):=by
 unfold backF
 rw[setF_N h1]
 by_cases e2:one∈b.m2
 ·simp only[e2,decide_true,Bool.or_true,if_true]
  rw[setF_r h1]
  refine FG_congr (fun p=>?_) (fun p=>?_) (fun p=>Iff.rfl)
  ·unfold afB;simp[e2]
  ·unfold arB;simp[e2]
 ·by_cases e1:one∈b.m1
  ·simp only[e1,e2,decide_true,decide_false,Bool.or_false,if_true]
   rw[setF_f h1]
   refine FG_congr (fun p=>?_) (fun p=>?_) (fun p=>Iff.rfl)
   ·unfold afB;simp[e1,e2]
   ·unfold arB;simp[e2]
  ·simp only[e1,e2,decide_false,Bool.or_self,Bool.false_eq_true,if_false]
   refine FG_congr (fun p=>?_) (fun p=>?_) (fun p=>Iff.rfl)
   ·unfold afB;simp[e1]
   ·unfold arB;simp[e2]
theorem FB_perm {b:Bd} {l l':List Key} (h:∀ p,p∈l ↔ p∈l'):FB b l=FB b l':=by
 unfold FB afB arB
 exact FG_congr (fun p=>by simp only[List.mem_filter,h]) (fun p=>by simp only[List.mem_filter,h]) h
theorem back_FB {b:Bd} {pos:List Key} {key:Key}:FB b (fallK pos key++leftK pos key)=FB b pos :=
 FB_perm fun p=>by
  unfold fallK leftK
  rw[List.mem_append,List.mem_filter,List.mem_filter]
  cases key.isPrefixOf p<;>simp
end
section
variable {d:Wd} {c:Cx} {σ:St}
theorem comp_inv {c:Cx} {x:Str} {xp:Pos} {elt:Expr} {side:(Addr->Option AO)->Prop} {K:List V->(Addr->Option AO)->Prop} {α:Type} {f e:α->V} {l:List (Str×V)} {hp:Addr->Option AO} (L:V->List (Str×V)) (I:List α->(Addr->Option AO)->Prop)
  (hx:c.env.kindOf x=some .local) (h0:∀ v,put x v l=L v) (h1:∀ u v,put x v (L u)=L v) (as:List α) (hs:∀ done hp,I done hp->side hp)
  (el:∀ done a r hp,as=done++a::r->I done hp->W d c elt ⟨lk (L (f a)),hp⟩ fun v σ'=>v=e a/\∃ hp',σ'=⟨lk (L (f a)),hp'⟩/\I (done++[a]) hp')
  (I0:I [] hp) (h:∀ hp',I as hp'->K (as.map e) hp'):CompRun d c (.Name x xp) [] elt side K (as.map f) [] ⟨lk l,hp⟩:=by
 have go:∀ (r done:List α) (l:List (Str×V)) (hp:Addr->Option AO),as=done++r->I done hp->(∀ v,put x v l=L v)->CompRun d c (.Name x xp) [] elt side K (r.map f) (done.map e) ⟨lk l,hp⟩:=by
  intro r
  induction r with
  | nil=>intro done l hp e hi _;rw[List.append_nil] at e;subst e;exact h hp hi
  | cons a r ih =>
   intro done l hp e hi hl
   show Asg d c (.Name x xp) (f a) ⟨lk l,hp⟩ _
   refine A_loc hx (hl _) ?_
   show W d c elt ⟨lk (L (f a)),hp⟩ _
   refine Ev.mono (el done a r hp e hi) fun v σ' hv=>?_
   refine elAEA hv fun hq0 hp' hq2 hi'=>?_
   try clear hv
   subst hq0
   subst hq2
   refine ⟨hs _ _ hi',?_⟩
   have:=ih (done++[a]) (L (f a)) hp' (by rw[e];simp) hi' (h1 _)
   rw[List.map_append] at this
   exact this
 exact go as [] l hp rfl I0 h0
theorem cmp_neRefl {a:V} {p:PyData} {K:V->St->Prop} (ha:a.data=some p) (hd:p.depth<=100) (R:Rm c.A 0) (h:K (.bool false) σ):Cmp d c .NotEq a a σ K:=fun g s x y r rx ry=>by
 refine elAE (data_reads rx ha) fun l1 as z1=>?_
 exact cmp_neD ha ha hd R (by rw[SeqAt.eqv_refl p l1];exact h) g s x y r rx ry
noncomputable def idxK:List Key->Key->Nat
 | [],_=>0
 | a::l,k=>if a=k then 0 else idxK l k+1
theorem idxK_spec:∀ {l:List Key} {k:Key},k∈l->l[idxK l k]? = some k/\∀ m,m < idxK l k->l[m]?≠some k
 | [],_,h=>nomatch h
 | a::l,k,h=>by
  unfold idxK
  by_cases e:a=k
  ·rw[if_pos e];subst e;exact⟨rfl,fun m hm=>absurd hm (Nat.not_lt_zero m)⟩
  ·rw[if_neg e]
   have hk:k∈l:=by
    rcases List.mem_cons.mp h with q | q
    ·exact absurd q.symm e
    ·exact q
   refine elA (idxK_spec hk) fun h1 h2=>?_
   refine ⟨h1,fun m hm=>?_⟩
   cases m with
   | zero=>intro q;exact e (Option.some.inj q)
   | succ m=>exact h2 m (Y132 hm)
theorem idxK_lt {l:List Key} {k:Key} (h:k∈l):idxK l k < l.length:=by
 have:=(idxK_spec h).1
 exact (List.getElem?_eq_some_iff.mp this).1
noncomputable def maskK (keys l:List Key):Int:=(l.map fun k=>(2:Int) ^ idxK keys k).sum
noncomputable def mvV (m:Int×Bool):V:=.lst [.int m.1,.bool m.2]
noncomputable def mvF (b:Bd) (pos:List Key):List (Int×Bool):=pos.map fun key=>(maskK b.keys (leftK pos key),mineM b key)
noncomputable abbrev Vis:=List (Int×List Key)
noncomputable def goO (keys:List Key) (rec:List Key->Vis->Vis) (pos:List Key):List Key->Vis->Vis
 | [],vis=>vis
 | k::ks,vis=>if (vis.map (·.1)).contains (maskK keys (leftK pos k))=true then goO keys rec pos ks vis else goO keys rec pos ks (rec (leftK pos k) vis)
noncomputable def ordF (keys:List Key):Nat->List Key->Vis->Vis
 | 0,_,vis=>vis
 | f+1,pos,vis=>goO keys (ordF keys f) pos pos (vis++[(maskK keys pos,pos)])
noncomputable def bkV (A:Int->Addr) (vis:Vis):List (Int×V):=vis.map fun v=>(v.1,.obj (A v.1))
theorem bkV_keys (A:Int->Addr) (vis:Vis):(bkV A vis).map (·.1)=vis.map (·.1):=by unfold bkV;rw[List.map_map];rfl
theorem bkV_congr {A A':Int->Addr} {vis:Vis} (h:∀ m∈vis.map (·.1),A' m=A m):bkV A' vis=bkV A vis:=List.map_congr_left fun v hv=>by rw[h v.1 (List.mem_map_of_mem hv)]
noncomputable def Fre (hp:Addr->Option AO) (a:Addr):Prop:=∀ ao,hp a=some ao->(∃ kvs,ao = .dictS kvs)\/∃ S n,ao = .setI S n
noncomputable def KeepB (B:Addr) (hp hp':Addr->Option AO):Prop:=∀ b ao,b≠B->hp b=some ao->(∀ kvs,ao ≠ .dictS kvs)->(∀ S n,ao ≠ .setI S n)->hp' b=some ao
theorem KeepB.refl (B:Addr) (hp:Addr->Option AO):KeepB B hp hp:=fun _ _ _ e _ _=>e
theorem KeepB.trans {B:Addr} {h1 h2 h3:Addr->Option AO} (x:KeepB B h1 h2) (y:KeepB B h2 h3):KeepB B h1 h3:=fun b ao hb e n1 n2=>y b ao hb (x b ao hb e n1 n2) n1 n2
theorem KeepB.of {B:Addr} {h1 h2:Addr->Option AO} (x:KeepF h1 h2):KeepB B h1 h2:=fun b ao _ e n1 n2=>x b ao e n1 n2
theorem KeepF.trans' {h1 h2 h3:Addr->Option AO} (x:KeepF h1 h2) (y:KeepF h2 h3):KeepF h1 h3:=fun b ao e n1 n2=>y b ao (x b ao e n1 n2) n1 n2
theorem KeepF.of {h1 h2:Addr->Option AO} (x:∀ b ao,h1 b=some ao->h2 b=some ao):KeepF h1 h2:=fun b ao e _ _=>x b ao e
theorem KeepF.fresh {h:Addr->Option AO} {a:Addr} {ao:AO} (e:h a=none):KeepF h (updH h a ao):=KeepF.of fun b o q=>(updH_ne fun z=>clZ e q z).trans q
theorem KeepB.fre {B:Addr} {h1 h2:Addr->Option AO} {a:Addr} (x:KeepB B h1 h2) (hb:a≠B) (f:Fre h2 a):Fre h1 a:=fun ao e=>by
 by_cases n1:∃ kvs,ao = .dictS kvs
 ·exact .inl n1
 ·by_cases n2:∃ S n,ao = .setI S n
  ·exact .inr n2
  ·exact f ao (x a ao hb e (fun kvs q=>n1 ⟨kvs,q⟩) fun S n q=>n2 ⟨S,n,q⟩)
theorem Fre.none {hp:Addr->Option AO} {a:Addr} (h:hp a=none):Fre hp a:=fun ao e=>by rw[h] at e;cases e
theorem Fre.ne {hp:Addr->Option AO} {a b:Addr} {vs:List V} (h:Fre hp a) (hb:hp b=some (.list vs)):a≠b:=fun e=>by
 rcases h _ (by rw[e];exact hb) with ⟨_,q⟩ | ⟨_,_,q⟩<;>cases q
theorem Flg.mono {hp hp':Addr->Option AO} {x P:Addr} {F:FM} (H:Flg hp x F P) (k:∀ b ao,hp b=some ao->hp' b=some ao):Flg hp' x F P:=by
 refine elEEA H.lays fun D0 lab e Ly=>?_
 refine ⟨D0,lab,k _ _ e,Ly.congr fun a q ea=>?_⟩
 rcases Ly.kind ea with ⟨kvs,q⟩ | ⟨S,n,q⟩
 ·rw[q,k _ _ q]
 ·rw[q,k _ _ q]
theorem Flg.fresh {hp:Addr->Option AO} {x P a:Addr} {F:FM} {ao:AO} (H:Flg hp x F P) (e:hp a=none):Flg (updH hp a ao) x F P :=
 H.mono fun b o q=>(updH_ne fun z=>clZ e q z).trans q
theorem Flg.list {hp:Addr->Option AO} {x P a:Addr} {F:FM} {vs:List V} {ao:AO} (H:Flg hp x F P) (e:hp a=some (.list vs)):Flg (updH hp a ao) x F P:=by
 refine elEEA H.lays fun D0 lab ex uu=>?_
 exact H.other (fun q=>clA ex e q) (fun _ q=>by rw[e] at q;cases q) (fun _ _ q=>by rw[e] at q;cases q)
theorem Flg.dict {hp:Addr->Option AO} {x P a:Addr} {F:FM} {kvs:List (Int×V)} {ep:Nat} {ao:AO} (H:Flg hp x F P) (e:hp a=some (.dictI kvs ep)):Flg (updH hp a ao) x F P:=by
 refine elEEA H.lays fun D0 lab ex uu=>?_
 exact H.other (fun q=>clA ex e q) (fun _ q=>by rw[e] at q;cases q) (fun _ _ q=>by rw[e] at q;cases q)
structure Bk (hp:Addr->Option AO) (B:Addr) (A:Int->Addr) (vis:Vis):Prop where
 di:∃ ep,hp B=some (.dictI (bkV A vis) ep)
 nd:(vis.map (·.1)).Nodup
theorem Bk.keep {hp hp':Addr->Option AO} {B:Addr} {A:Int->Addr} {vis:Vis} (H:Bk hp B A vis) (k:KeepF hp hp'):Bk hp' B A vis:=by
 refine elE H.di fun ep e=>?_
 exact⟨⟨ep,k B _ e (fun _=>AO.noConfusion) fun _ _=>AO.noConfusion⟩,H.nd⟩
end
section
variable {d:Wd} {c:Cx} {σ:St}
structure PlayR (b:Bd) (hp0 hp:Addr->Option AO) (x P B:Addr) (A A':Int->Addr) (vis vis':Vis) (pos:List Key):Prop where
 fl:Flg hp x (FB b pos) P
 bk:Bk hp B A' vis'
 same:∀ m∈vis.map (·.1),A' m=A m
 new:∃ nw,vis'=vis++nw/\∀ v∈nw,hp (A' v.1)=some (.list ((mvF b v.2).map mvV))/\Fre hp0 (A' v.1)/\A' v.1≠B
 keep:KeepB B hp0 hp
structure BdOk (b:Bd):Prop where
 l1:b.m1.length<=1000
 l2:b.m2.length<=1000
 lk:b.keys.length<=100
 k2:∀ k∈b.m2,k≠[]/\k.length<=1000
 kk:∀ k∈b.keys,k≠[]/\k.length<=1000
structure TurnR (b:Bd) (hp0 hp:Addr->Option AO) (x P B a0:Addr) (A A':Int->Addr) (vis vis':Vis) (pos:List Key) (mv:List (Int×Bool)):Prop where
 fl:Flg hp x (FB b pos) P
 bk:Bk hp B A' vis'
 same:∀ m∈vis.map (·.1),A' m=A m
 own:A' (maskK b.keys pos)=a0
 mvs:hp a0=some (.list (mv.map mvV))
 new:∃ nw,vis'=vis++(maskK b.keys pos,pos)::nw/\∀ v∈nw,hp (A' v.1)=some (.list ((mvF b v.2).map mvV))/\Fre hp0 (A' v.1)/\A' v.1≠B/\A' v.1≠a0
 keep:KeepB B hp0 hp
 f0:hp0 a0=none
 b0:a0≠B
theorem goO_len {keys:List Key} {rec:List Key->Vis->Vis} {pos:List Key} (hr:∀ l v,v.length<=(rec l v).length):∀ (ks:List Key) (vis:Vis),vis.length<=(goO keys rec pos ks vis).length
 | [],_=>Nat.le_refl _
 | k::ks,vis=>by
  unfold goO
  split
  ·exact goO_len hr ks vis
  ·exact Nat.le_trans (hr _ _) (goO_len hr ks _)
theorem ordF_len {keys:List Key}:∀ (f:Nat) (pos:List Key) (vis:Vis),vis.length<=(ordF keys f pos vis).length
 | 0,_,_=>Nat.le_refl _
 | f+1,pos,vis=>by
  unfold ordF
  refine Nat.le_trans ?_ (goO_len (ordF_len f) _ _)
  rw[List.length_append];exact Y167
theorem TurnR.init {b:Bd} {hp0:Addr->Option AO} {x P B a0:Addr} {A:Int->Addr} {vis:Vis} {pos:List Key} {ep':Nat} (hF:Flg hp0 x (FB b pos) P) (hB:Bk hp0 B A vis) (hm:maskK b.keys pos ∉ vis.map (·.1)) (f0:hp0 a0=none) :
  TurnR b hp0 (updH (updH hp0 a0 (.list [])) B (.dictI (bkV A vis++[(maskK b.keys pos,.obj a0)]) ep')) x P B a0 A (fun m=>if m=maskK b.keys pos then a0 else A m) vis (vis++[(maskK b.keys pos,pos)]) pos []:=by
 refine elE hB.di fun ep hBd=>?_
 have nB:B≠a0:=fun q=>clA f0 hBd q
 have hs:∀ m∈vis.map (·.1),(if m=maskK b.keys pos then a0 else A m)=A m:=fun m h=>if_neg fun q=>hm (by rw[<- q];exact h)
 refine ⟨(hF.fresh f0).dict ((updH_ne nB).trans hBd),⟨⟨ep',?_⟩,?_⟩,hs,if_pos rfl,(updH_ne (Ne.symm nB)).trans updH_at,⟨[],rfl,fun v h=>nomatch h⟩,fun q ao hq e n1 n2=>?_,f0,Ne.symm nB⟩
 ·rw[updH_at]
  have:bkV (fun m=>if m=maskK b.keys pos then a0 else A m) (vis++[(maskK b.keys pos,pos)])=bkV A vis++[(maskK b.keys pos,.obj a0)]:=by
   have e:=bkV_congr hs
   unfold bkV at e ⊢
   rw[List.map_append,e]
   simp
  rw[this]
 ·rw[List.map_append,List.nodup_append]
  refine ⟨hB.nd,by simp,fun a ha b' hb' q=>?_⟩
  simp only[List.map_cons,List.map_nil,List.mem_singleton] at hb'
  exact hm (by rw[<- hb',<- q];exact ha)
 ·exact (updH_ne hq).trans ((updH_ne fun z=>clZ f0 e z).trans e)
noncomputable def fd226 (P:Params):FuncData:=fnData (o226 P)
theorem bind4 {fd:FuncData} {a b e g:V} {x y z w:Str} (h:∀ u v w' q:Value,bindArgs fd ⟨[u,v,w',q],[]⟩=pure [(x,u),(y,v),(z,w'),(w,q)]):BindV d c fd [a,b,e,g] [] [(x,a),(y,b),(z,e),(w,g)] σ:=bind_plain (names:=[x,y,z,w]) rfl fun xs hx=>elEEEE (len4 hx) fun u v w' q e=>by rw[e];exact h u v w' q
noncomputable abbrev playB (n:Nat):List Stmt:=(kidS (nthS (kidS S15) 2)).drop n
theorem told_data (f:List Key):(V.tup [ksV f,ksV []]).data=some (.tuple [.list (f.map kD),.list []]):=by
 have e1:=ksV_data f
 have e2:=ksV_data []
 show (datas [ksV f,ksV []]).map PyData.tuple=_
 unfold datas
 rw[e1]
 unfold datas
 rw[e2]
 rfl
theorem bools_data (o:Bool) (l:List Key):(V.lst (l.map fun _=>V.bool o)).data=some (.list (l.map fun _=>PyData.bool o)):=by
 have:=datas_of (f:=fun _:Key=>V.bool o) (g:=fun _=>PyData.bool o) (fun _=>by simp[V.data]) l
 simp only[V.data,this,Option.map_some]
end
section
variable {d:Wd} {c:Cx} {σ:St}
noncomputable def toldL (b:Bd) (x B a0 dd:Addr) (pos:List Key) (key:Key):List (Str×V):=[(ofS "flags",.obj x),(ofS "board",bV b),(ofS "position",ksV pos),(ofS "book",.obj B),(ofS "moves",.obj a0),(ofS "key",kV key),(ofS "owner",.bool (mineM b key)),(ofS "fallen",ksV (fallK pos key)),(ofS "over",.bool (overF b key)),(ofS "deeds",.obj dd),(ofS "left",ksV (leftK pos key)),(ofS "held",.lst ((fallK pos key).map fun _=>V.bool (overF b key))),(ofS "told",.tup [ksV (fallK pos key),ksV []])]
noncomputable def PlayRec (b:Bd) (f:Nat):Prop:=∀ {d:Wd} {c:Cx} {σ:St} {x P B:Addr} {A:Int->Addr} {vis:Vis} {pos:List Key} {K:V->St->Prop},Rm c.A (f+4)->pos.length < f->Stand b pos->Flg σ.hp x (FB b pos) P->Bk σ.hp B A vis->maskK b.keys pos ∉ vis.map (·.1)->(ordF b.keys f pos vis).length<=100 ->
  (∀ hp' A',PlayR b σ.hp hp' x P B A A' vis (ordF b.keys f pos vis) pos->K .none ⟨σ.loc,hp'⟩)->CallV d c (.ref 226) [.obj x,bV b,ksV pos,.obj B] [] σ K
theorem turn2 {A0:Around} {L:Addr} {b:Bd} (hb:BdOk b) {f:Nat} (ihf:PlayRec b f) {x P B a0 dd:Addr} {A':Int->Addr} {vis':Vis} {pos:List Key} {key:Key} {hp6:Addr->Option AO} {KT:Fl->St->Prop} (R':Rm (cxOf A0 (fd226 d.w.params) L 226).A (f+4)) (hst:Stand b pos) (hk:key∈pos) (hf:pos.length < f+1)
  (F6:Flg hp6 x (FB b (leftK pos key)) P) (hd6:hp6 dd=some (.list ([V.none]++(fallK pos key).map fun _=>V.none))) (hB:Bk hp6 B A' vis') (hvl:vis'.length<=100) (hvl2:(ordF b.keys f (leftK pos key) vis').length<=100\/(vis'.map (·.1)).contains (maskK b.keys (leftK pos key))=true)
  (h:∀ hp7 A2 vis2,PlayR b hp6 hp7 x P B A' A2 vis' vis2 (leftK pos key)->vis2=(if (vis'.map (·.1)).contains (maskK b.keys (leftK pos key))=true then vis' else ordF b.keys f (leftK pos key) vis') ->
   WB d (cxOf A0 (fd226 d.w.params) L 226) (playB 10) ⟨lk (toldL b x B a0 dd pos key++[(ofS "mask",.int (maskK b.keys (leftK pos key)))]),hp7⟩ KT) :
  WB d (cxOf A0 (fd226 d.w.params) L 226) (playB 8) ⟨lk (toldL b x B a0 dd pos key),hp6⟩ KT:=by
  have hlen:pos.length<=4:=hst.len
  have hfl:(fallK pos key).length<=4:=Nat.le_trans (List.length_filter_le ..) hlen
  have hll:(leftK pos key).length<=4:=Nat.le_trans (List.length_filter_le ..) hlen
  unfold toldL
  refine WB_cons ?_
  walk_at "w"
  refine W_Cmp2 true (l:=[(ofS "board",bV b)]) (by kernel_rfl!) R'.handled ?_
  walk_at "w"
  refine ⟨_,_,iter_lst,by simp;exact Y105 hll,⟨by walk_at "l",trivial⟩,fun C0=>?_⟩
  refine comp_pure (f:=kV) (e:=fun k=>V.int ((2:Int) ^ idxK b.keys k)) (p:=fun _=>true) (fun v=>[(ofS "board",bV b),(ofS "one",v)]) (by kernel_rfl!) (fun v=>by walk_at "p") (fun u v=>by walk_at "p") trivial (leftK pos key) (fun one ho=>?_) (fun one ho _=>?_) _ ?_
  ·exact⟨rfl,rfl⟩
  ·walk_at "w"
   refine sub_lst (v:=ksV b.keys) (Int.natCast_nonneg _) (by omega) rfl ?_
   refine getM_lst PySem.F.slot_list_index PySem.F.type_list_index ?_
   walk_at "w"
   have hi:=idxK_spec (hst.left.sub one ho)
   have hlt:=idxK_lt (hst.left.sub one ho)
   have:=hb.lk
   refine call_indexK (j:=idxK b.keys one) (R'.le Y37) (ks:=b.keys) rfl (Y80 this) hi.1 hi.2 ?_
   refine bin_pow2 (Y155 hlt this) ?_
   rw[Int.toNat_natCast]
   exact⟨rfl,rfl⟩
  show WL d _ _ _ _ _
  walk_at "w"
  rw[List.nil_append,List.filter_eq_self.mpr fun _ _=>rfl]
  refine call_sum R'.handled (ns:=(leftK pos key).map fun k=>(2:Int) ^ idxK b.keys k) (by simp only[lstOf,List.map_map];rfl) ?_
  change AsgAll d _ _ (.int (maskK b.keys (leftK pos key))) _ _
  walk_at "w"
  refine W_Tuple ?_
  walk_at "w"
  refine W_List ?_
  walk_at "w"
  refine ⟨by simp,?_⟩
  walk_at "w"
  refine ⟨by simp,?_⟩
  refine cmp_neRefl (a:=.tup [ksV (fallK pos key),ksV []]) (p:=.tuple [.list ((fallK pos key).map kD),.list []]) (told_data _) (by
   have:=depth_ksD (fallK pos key)
   simp only[PyData.depth,PyData.depthAll] at this ⊢;exact Y46 this) (R'.le Y37) ?_
  walk_at "w"
  try simp only[Bool.false_eq_true,if_false]
  walk_at "w"
  refine W_Cmp2 true (l:=[(ofS "over",.bool (overF b key))]) (by kernel_rfl!) R'.handled ?_
  walk_at "w"
  refine ⟨_,_,iter_lst,by simp;exact Y105 hfl,⟨by walk_at "l",trivial⟩,fun C0=>?_⟩
  refine comp_pure (f:=kV) (e:=fun _=>V.bool (overF b key)) (p:=fun _=>true) (fun v=>[(ofS "over",.bool (overF b key)),(ofS "one",v)]) (by kernel_rfl!) (fun v=>by walk_at "p") (fun u v=>by walk_at "p") trivial (fallK pos key) (fun one ho=>?_) (fun one ho _=>?_) _ ?_
  ·exact⟨rfl,rfl⟩
  ·walk_at "w"
   exact⟨rfl,rfl⟩
  rw[List.nil_append,List.filter_eq_self.mpr fun _ _=>rfl]
  show Cmp d _ _ _ _ _ _
  refine cmp_neRefl (p:=.list ((fallK pos key).map fun _=>PyData.bool (overF b key))) (bools_data _ _) (by
   have:=depthAll_le (g:=fun _:Key=>PyData.bool (overF b key)) (n:=0) (fun a=>Nat.le_refl _) (fallK pos key)
   simp only[PyData.depth];exact Y72 this) (R'.le Y37) ?_
  walk_at "w"
  try simp only[Bool.false_eq_true,if_false]
  walk_at "w"
  refine W_Cmp2 true (l:=[]) (by kernel_rfl!) R'.handled ?_
  walk_at "w"
  refine ⟨_,_,iter_list hd6,by simp;exact Y106 hfl,trivial,fun C0=>?_⟩
  refine comp_pure (α:=Key) (f:=fun _=>V.none) (e:=fun _=>V.none) (p:=fun _=>false) (fun v=>[(ofS "deed",v)]) (by kernel_rfl!) (fun v=>by walk_at "p") (fun u v=>by walk_at "p") hd6 (key::fallK pos key) (fun one ho=>?_) (fun one ho hno=>nomatch hno) _ ?_
  ·show WT d _ _ _ _
   walk_at "w"
   refine cmp_isNotNone (b:=true) rfl ?_
   walk_at "w"
   exact⟨rfl,rfl⟩
  rw[List.nil_append,List.filter_eq_nil_iff.mpr fun _ _=>by simp]
  show W d _ _ _ _
  refine W_List ?_
  walk_at "w"
  refine ⟨by simp,?_⟩
  refine cmp_neKs (a:=[]) (b:=[]) (R'.le Y37) ?_
  walk_at "w"
  try simp only[decide_true,Bool.not_true,Bool.false_eq_true,if_false]
  refine WT_or_nil ?_
  refine IfS_f ?_
  refine (fun h2 h1=>mid (M:=fun σ'=>∃ hp7 A2 vis2,σ'=⟨lk (toldL b x B a0 dd pos key++[(ofS "mask",.int (maskK b.keys (leftK pos key)))]),hp7⟩/\PlayR b hp6 hp7 x P B A' A2 vis' vis2 (leftK pos key)/\vis2=(if (vis'.map (·.1)).contains (maskK b.keys (leftK pos key))=true then vis' else ordF b.keys f (leftK pos key) vis')) h1 h2) ?_ ?_
  ·intro uu zr1
   refine elEEEAA zr1 fun hp7 A2 vis2 hq3 q1 q2=>?_
   try clear zr1
   subst hq3
   exact h hp7 A2 vis2 q1 q2
  refine elE hB.di fun ep hBd=>?_
  walk_at "w"
  refine cmp_notInI hBd ?_
  walk_at "w"
  by_cases hm:maskK b.keys (leftK pos key)∈vis'.map (·.1)
  ·have e1:(look (maskK b.keys (leftK pos key)) (bkV A' vis')).isSome=true:=by
    cases e:look (maskK b.keys (leftK pos key)) (bkV A' vis') with
    | some _=>rfl
    | none=>exact absurd (by rw[bkV_keys];exact hm) (look_none_map.mp e)
   have e2:(vis'.map (·.1)).contains (maskK b.keys (leftK pos key))=true:=List.contains_iff_mem.mpr hm
   rw[e1]
   try simp only[Bool.not_true,Bool.false_eq_true,if_false]
   walk_at "w"
   refine ⟨rfl,hp6,A',vis',rfl,⟨F6,hB,fun _ _=>rfl,⟨[],by simp,fun v h=>nomatch h⟩,KeepB.refl _ _⟩,by rw[if_pos e2]⟩
  ·have e1:(look (maskK b.keys (leftK pos key)) (bkV A' vis')).isSome=false:=by
    rw[look_none_map.mpr (by rw[bkV_keys];exact hm)];rfl
   have e2:¬ (vis'.map (·.1)).contains (maskK b.keys (leftK pos key))=true:=fun q=>hm (List.contains_iff_mem.mp q)
   rw[e1]
   try simp only[Bool.not_false,if_true]
   walk_at "w"
   refine ihf R' (by have:=leftK_lt hk;exact Y233 hf this) hst.left F6 hB hm (hvl2.resolve_right e2) fun hp7 A2 Q=>?_
   walk_at "w"
   exact⟨rfl,hp7,A2,_,rfl,Q,by rw[if_neg e2]⟩
end
section
variable {d:Wd} {c:Cx} {σ:St}
noncomputable def maskL (b:Bd) (x B a0 dd:Addr) (pos:List Key) (key:Key):List (Str×V):=[(ofS "flags",.obj x),(ofS "board",bV b),(ofS "position",ksV pos),(ofS "book",.obj B),(ofS "moves",.obj a0),(ofS "key",kV key),(ofS "owner",.bool (mineM b key)),(ofS "fallen",ksV (fallK pos key)),(ofS "over",.bool (overF b key)),(ofS "deeds",.obj dd),(ofS "left",ksV (leftK pos key)),(ofS "held",.lst ((fallK pos key).map fun _=>V.bool (overF b key))),(ofS "told",.tup [ksV (fallK pos key),ksV []]),(ofS "mask",.int (maskK b.keys (leftK pos key)))]
theorem call_set2 {x P:Addr} {F:FM} {key:Key} {e rc:Bool} {K:V->St->Prop} (R:Rm c.A 1) (hz:key.length<=1000) (hk:key≠[]) (H:Flg σ.hp x F P) (h:∀ hp',Flg hp' x (setF F key e rc) P->KeepF σ.hp hp'->K .none ⟨σ.loc,hp'⟩) {i:Int} (hi:i=flI e) :
  CallV d c (.ref 63) [.obj x,kV key,.int i] [(ofS "recursive",.bool rc)] σ K:=by rw[hi];exact set_spec R hz hk H h
theorem turn3 {A0:Around} {L:Addr} {b:Bd} (hb:BdOk b) {f:Nat} {x P B a0 dd:Addr} {pos:List Key} {key:Key} {mv:List (Int×Bool)} {hp7:Addr->Option AO} {KT:Fl->St->Prop} (R':Rm (cxOf A0 (fd226 d.w.params) L 226).A (f+4)) (hst:Stand b pos) (hk:key∈pos)
  (F7:Flg hp7 x (FB b (leftK pos key)) P) (hm7:hp7 a0=some (.list (mv.map mvV))) (hmv:mv.length<=10)
  (h:∀ hp8 ll,Flg hp8 x (FB b pos) P->KeepF (updH hp7 a0 (.list ((mv++[(maskK b.keys (leftK pos key),mineM b key)]).map mvV))) hp8->LocIn (lk ll) [(ofS "flags",.obj x),(ofS "board",bV b),(ofS "position",ksV pos),(ofS "book",.obj B),(ofS "moves",.obj a0)]->KT .next ⟨lk ll,hp8⟩) :
  WB d (cxOf A0 (fd226 d.w.params) L 226) (playB 10) ⟨lk (toldL b x B a0 dd pos key++[(ofS "mask",.int (maskK b.keys (leftK pos key)))]),hp7⟩ KT:=by
 have hlen:pos.length<=4:=hst.len
 have hfl:(fallK pos key).length<=4:=Nat.le_trans (List.length_filter_le ..) hlen
 have hfk:∀ one∈fallK pos key,one.length<=1000/\one≠[]:=fun one ho=>⟨(hb.kk one (hst.sub one (List.mem_filter.mp ho).1)).2,hst.ne one (List.mem_filter.mp ho).1⟩
 show WB d _ _ ⟨lk (maskL b x B a0 dd pos key),hp7⟩ _
 unfold maskL
 refine WB_cons ?_
 walk_at "w"
 refine getM_list hm7 PySem.F.slot_list_append PySem.F.type_list_append ?_
 walk_at "w"
 refine W_List ?_
 walk_at "w"
 refine ⟨by simp,?_⟩
 walk_at "w"
 refine call_append hm7 (by simp;exact Y76 hmv) ?_
 have F8:=F7.list (ao:=.list ((mv++[(maskK b.keys (leftK pos key),mineM b key)]).map mvV)) hm7
 rw[show mv.map mvV++[V.lst [V.int (maskK b.keys (leftK pos key)),V.bool (mineM b key)]]=(mv++[(maskK b.keys (leftK pos key),mineM b key)]).map mvV by rw[List.map_append];rfl]
 show Then d _ _ _ _ ⟨_,updH hp7 a0 (.list ((mv++[(maskK b.keys (leftK pos key),mineM b key)]).map mvV))⟩
 generalize updH hp7 a0 (.list ((mv++[(maskK b.keys (leftK pos key),mineM b key)]).map mvV))=hp8 at *
 walk_at "w"
 refine WS_For (fun _ _ q=>q) R'.handled ?_
 walk_at "w"
 refine sub_tup (j:=0) (v:=ksV (fallK pos key)) (by decide) (by decide) rfl rfl ?_
 walk_at "w"
 refine sub_rev (vs:=(fallK pos key).map kV) (by simp;exact Y105 hfl) ?_
 rw[<- List.map_reverse]
 refine ⟨_,_,iter_lst,?_⟩
 refine (fun G:(∀ (ks T:List Key) (hp':Addr->Option AO) (l:List (Str×V)),ks.reverse++T=fallK pos key->Flg hp' x (FB b (T++leftK pos key)) P->KeepF hp8 hp'->LocIn (lk l) [(ofS "flags",.obj x),(ofS "board",bV b),(ofS "position",ksV pos),(ofS "book",.obj B),(ofS "moves",.obj a0)] ->
   ForRun d _ _ _ _ _ _ (ks.map kV) ⟨lk l,hp'⟩)=>G (fallK pos key).reverse [] _ _ (by simp) F8 (KeepF.refl _) ⟨by walk_at "l",by walk_at "l",by walk_at "l",by walk_at "l",by walk_at "l",trivial⟩) ?_
 intro ks
 induction ks with
 | nil =>
  intro T hp' l hT FT k8 hl
  have e:T=fallK pos key:=hT
  rw[e,back_FB] at FT
  refine (fun G:WB d _ _ ⟨lk l,hp'⟩ _=>G) ?_
  walk_at "w"
  exact h hp' l FT k8 hl
 | cons one ks ih =>
  intro T hp' l hT FT k8 hl
  have ho:one∈fallK pos key:=by rw[<- hT];simp
  refine elA (hfk one ho) fun ho1 ho2=>?_
  refine (fun G:ForRun d _ _ _ _ _ _ _ ⟨lk [(ofS "flags",.obj x),(ofS "board",bV b),(ofS "position",ksV pos),(ofS "book",.obj B),(ofS "moves",.obj a0)],hp'⟩=>ForRun.sub (le_loc hl) G) ?_
  clear hl l
  refine elEEA (id FT.lays) fun D1 lab1 hx1 uu=>?_
  show Asg d _ _ _ _ _
  walk_at "w"
  refine getM_F (name:=ofS "set") (f:=63) hx1 (by walk_at "m nolook") (by kernel_rfl!) (by kernel_rfl!) ?_
  refine WC_K (by kernel_rfl!) (by kernel_rfl!) ?_
  refine WA_kw (names:=[ofS "recursive"]) ?h1 ?h2 ?_ ?h3
  case h1=>rfl
  case h2=>rfl
  case h3=>rfl
  walk_at "w"
  refine att_NEST ?_
  walk_at "w"
  refine WK_cons ?_
  walk_at "w"
  refine WK_nil ⟨rfl,?_⟩
  refine call_set2 (e:=true) (R'.le Y40) ho1 ho2 FT (fun hp9 F9 k9=>?_) rfl
  walk_at "w"
  refine sub_lst (v:=ksV b.m1) (by decide) (by decide) rfl ?_
  refine cmp_inK (R'.le Y37) ?_
  walk_at "w"
  refine elEEA (id F9.lays) fun D2 lab2 hx2 uu=>?_
  have fin:∀ {e:Bool} {hp10:Addr->Option AO},(decide (one∈b.m1)||decide (one∈b.m2))=e->Flg hp10 x (if e=true then setF (setF (FB b (T++leftK pos key)) one true false) one false (decide (one∈b.m2)) else setF (FB b (T++leftK pos key)) one true false) P->Flg hp10 x (FB b ((one::T)++leftK pos key)) P:=fun he H=>by
   have e:=back_FG (b:=b) (L:=leftK pos key) (T:=T) ho2
   unfold FB
   rw[<- e]
   unfold backF
   rw[he]
   exact H
  have hK:∀ {hp10:Addr->Option AO} {l:List (Str×V)},Flg hp10 x (FB b ((one::T)++leftK pos key)) P->KeepF hp8 hp10->LocIn (lk l) [(ofS "flags",.obj x),(ofS "board",bV b),(ofS "position",ksV pos),(ofS "book",.obj B),(ofS "moves",.obj a0)]->ForRun d _ _ _ _ _ _ (ks.map kV) ⟨lk l,hp10⟩:=fun H k hl=>ih (one::T) _ _ (by rw[<- hT];simp) H k hl
  by_cases c1:one∈b.m1
  ·simp only[c1,decide_true,if_true]
   walk_at "w"
   refine getM_F (name:=ofS "set") (f:=63) hx2 (by walk_at "m nolook") (by kernel_rfl!) (by kernel_rfl!) ?_
   refine WC_K (by kernel_rfl!) (by kernel_rfl!) ?_
   refine WA_kw (names:=[ofS "recursive"]) ?h1 ?h2 ?_ ?h3
   case h1=>rfl
   case h2=>rfl
   case h3=>rfl
   walk_at "w"
   refine att_FROZEN ?_
   walk_at "w"
   refine WK_cons ?_
   walk_at "w"
   refine sub_lst (v:=ksV b.m2) (by decide) (by decide) rfl ?_
   refine cmp_inK (R'.le Y37) ?_
   walk_at "w"
   refine WK_nil ⟨rfl,?_⟩
   refine call_set2 (e:=false) (R'.le Y40) ho1 ho2 F9 (fun hp10 F10 k10=>?_) rfl
   walk_at "w"
   exact⟨trivial,hK (fin (e:=true) (by simp[c1]) (by rw[if_pos rfl];exact F10)) (k8.trans' (k9.trans' k10)) ⟨by walk_at "l",by walk_at "l",by walk_at "l",by walk_at "l",by walk_at "l",trivial⟩⟩
  ·simp only[c1,decide_false,Bool.false_eq_true,if_false]
   walk_at "w"
   refine sub_lst (v:=ksV b.m2) (by decide) (by decide) rfl ?_
   refine cmp_inK (R'.le Y37) ?_
   walk_at "w"
   by_cases c2:one∈b.m2
   ·simp only[c2,decide_true,if_true]
    walk_at "w"
    refine getM_F (name:=ofS "set") (f:=63) hx2 (by walk_at "m nolook") (by kernel_rfl!) (by kernel_rfl!) ?_
    refine WC_K (by kernel_rfl!) (by kernel_rfl!) ?_
    refine WA_kw (names:=[ofS "recursive"]) ?h1 ?h2 ?_ ?h3
    case h1=>rfl
    case h2=>rfl
    case h3=>rfl
    walk_at "w"
    refine att_FROZEN ?_
    walk_at "w"
    refine WK_cons ?_
    walk_at "w"
    refine sub_lst (v:=ksV b.m2) (by decide) (by decide) rfl ?_
    refine cmp_inK (R'.le Y37) ?_
    walk_at "w"
    refine WK_nil ⟨rfl,?_⟩
    refine call_set2 (e:=false) (R'.le Y40) ho1 ho2 F9 (fun hp10 F10 k10=>?_) rfl
    walk_at "w"
    exact⟨trivial,hK (fin (e:=true) (by simp[c2]) (by rw[if_pos rfl];exact F10)) (k8.trans' (k9.trans' k10)) ⟨by walk_at "l",by walk_at "l",by walk_at "l",by walk_at "l",by walk_at "l",trivial⟩⟩
   ·simp only[c2,decide_false,Bool.false_eq_true,if_false]
    walk_at "w"
    try simp only[Bool.false_eq_true,if_false]
    walk_at "w"
    exact⟨trivial,hK (fin (e:=false) (by simp[c1,c2]) (by rw[if_neg (by decide)];exact F9)) (k8.trans' k9) ⟨by walk_at "l",by walk_at "l",by walk_at "l",by walk_at "l",by walk_at "l",trivial⟩⟩
end
section
variable {d:Wd} {c:Cx} {σ:St}
theorem ok226 (d:Wd):FnOk d 226 (fd226 d.w.params) (kidS S15) [ofS "flags",ofS "board",ofS "position",ofS "book"]:=⟨⟨o226 d.w.params,by kernel_rfl!,by kernel_rfl!⟩,by kernel_rfl!,by kernel_rfl!,by kernel_rfl!,fun L=>by kernel_rfl!,by kernel_rfl!,by kernel_rfl!,by kernel_rfl!,by kernel_rfl!,by kernel_rfl!,by kernel_rfl!⟩
theorem play_spec {b:Bd} (hb:BdOk b):∀ (f:Nat) {d:Wd} {c:Cx} {σ:St} {x P B:Addr} {A:Int->Addr} {vis:Vis} {pos:List Key} {K:V->St->Prop},Rm c.A (f+4)->pos.length < f->Stand b pos->Flg σ.hp x (FB b pos) P->Bk σ.hp B A vis->maskK b.keys pos ∉ vis.map (·.1)->(ordF b.keys f pos vis).length<=100 ->
  (∀ hp' A',PlayR b σ.hp hp' x P B A A' vis (ordF b.keys f pos vis) pos->K .none ⟨σ.loc,hp'⟩)->CallV d c (.ref 226) [.obj x,bV b,ksV pos,.obj B] [] σ K:=by
 intro f
 induction f with
 | zero=>intro d c σ x P B A vis pos K R hf;exact absurd hf (Nat.not_lt_zero _)
 | succ f ihf =>
 intro d c σ x P B A vis pos K R hf hst hF hB hm hvm h
 refine CallV_ok (bs:=[(ofS "flags",.obj x),(ofS "board",bV b),(ofS "position",ksV pos),(ofS "book",.obj B)]) (ok226 d) R.room (bind4 fun u v w q=>rfl) (fun L=>?_)
 have R':Rm (cxOf c.A (fd226 d.w.params) L 226).A (f+4):=Rm.in (R.le Y51)
 obtain hlen:pos.length<=4:=hst.len
 obtain hvl0:=ordF_len (keys:=b.keys) (f+1) pos vis
 refine WB_cons ?_
 walk_at "w"
 refine W_ListM ?_
 walk_at "w"
 refine ⟨by simp,fun a0 f0=>?_⟩
 walk_at "w"
 refine W_Cmp2 true (l:=[(ofS "board",bV b)]) (by kernel_rfl!) R'.handled ?_
 walk_at "w"
 refine ⟨_,_,iter_lst,by simp;exact Y105 hlen,⟨by walk_at "l",trivial⟩,fun C0=>?_⟩
 refine comp_pure (f:=kV) (e:=fun k=>V.int ((2:Int) ^ idxK b.keys k)) (p:=fun _=>true) (fun v=>[(ofS "board",bV b),(ofS "key",v)]) (by kernel_rfl!) (fun v=>by walk_at "p") (fun u v=>by walk_at "p") trivial pos (fun key hk=>?_) (fun key hk _=>?_) _ ?_
 ·exact⟨rfl,rfl⟩
 ·walk_at "w"
  refine sub_lst (v:=ksV b.keys) (Int.natCast_nonneg _) (by omega) rfl ?_
  refine getM_lst PySem.F.slot_list_index PySem.F.type_list_index ?_
  walk_at "w"
  obtain hi:=idxK_spec (hst.sub key hk)
  obtain hlt:=idxK_lt (hst.sub key hk)
  obtain this:=hb.lk
  refine call_indexK (j:=idxK b.keys key) (R'.le Y37) (ks:=b.keys) rfl (Y80 this) hi.1 hi.2 ?_
  refine bin_pow2 (Y155 hlt this) ?_
  rw[Int.toNat_natCast]
  exact⟨rfl,rfl⟩
 refine (?_:WL d _ _ _ _ _)
 walk_at "w"
 simp only[List.nil_append,List.filter_eq_self.mpr fun _ _=>rfl]
 refine call_sum R'.handled (ns:=pos.map fun k=>(2:Int) ^ idxK b.keys k) (by simp only[lstOf,List.map_map];rfl) ?_
 refine (?_:SetI d _ _ (.int (maskK b.keys pos)) _ _ _)
 refine elE hB.di fun ep hBd=>?_
 obtain nB:B≠a0:=fun q=>by rw[q] at hBd;rw[show σ.hp a0=none from f0] at hBd;cases hBd
 refine set_dictI ((updH_ne nB).trans hBd) (by unfold bkV;simp;exact Y194 hvm hvl0) fun ep'=>?_
 rw[put_new (by rw[bkV_keys];exact hm)]
 walk_at "w"
 obtain hT:=TurnR.init (ep':=ep') hF hB hm f0
 refine WS_For (fun _ _ q=>q) R'.handled ?_
 walk_at "w"
 refine ⟨_,_,iter_lst,?_⟩
 refine (fun G:(∀ (ks done:List Key) (A':Int->Addr) (vis':Vis) (hp':Addr->Option AO) (l:List (Str×V)),pos=done++ks->TurnR b σ.hp hp' x P B a0 A A' vis vis' pos (done.map fun key=>(maskK b.keys (leftK pos key),mineM b key)) ->
   goO b.keys (ordF b.keys f) pos ks vis'=ordF b.keys (f+1) pos vis->LocIn (lk l) [(ofS "flags",.obj x),(ofS "board",bV b),(ofS "position",ksV pos),(ofS "book",.obj B),(ofS "moves",.obj a0)] ->
   ForRun d _ _ _ _ _ _ (ks.map kV) ⟨lk l,hp'⟩)=>G pos [] _ _ _ _ rfl hT rfl ⟨by walk_at "l",by walk_at "l",by walk_at "l",by walk_at "l",by walk_at "l",trivial⟩) ?_
 clear hT
 intro ks
 induction ks with
 | nil =>
  intro done A' vis' hp' l hd T e hl
  refine (fun G:WB d _ _ ⟨lk [(ofS "flags",.obj x),(ofS "board",bV b),(ofS "position",ksV pos),(ofS "book",.obj B),(ofS "moves",.obj a0)],hp'⟩ _=>Ev.sub (le_loc hl) G) ?_
  walk_at "w"
  simp only[List.append_nil] at hd
  subst hd
  refine h hp' A' ?_
  simp only[<- e]
  refine elEA T.new fun nw n1 n2=>?_
  refine ⟨T.fl,T.bk,T.same,⟨_,n1,fun v hv=>?_⟩,T.keep⟩
  rcases List.mem_cons.mp hv with rfl | hv
  ·rw[T.own]
   exact⟨T.mvs,Fre.none f0,T.b0⟩
  ·exact⟨(n2 v hv).1,(n2 v hv).2.1,(n2 v hv).2.2.1⟩
 | cons key ks ih =>
  intro done A' vis' hp' l hd T e hl
  have hk:key∈pos:=by rw[hd];simp
  have hk0:=hst.ne key hk
  have hkl:key.length<=1000:=(hb.kk key (hst.sub key hk)).2
  have hkk:∀ one∈pos,one.length<=1000:=fun one ho=>(hb.kk one (hst.sub one ho)).2
  have hm2:∀ k∈b.m2,k≠[]:=fun k h=>(hb.k2 k h).1
  refine elEEA (id T.fl.lays) fun D0 lab hx uu=>?_
  refine (fun G:ForRun d _ _ _ _ _ _ _ ⟨lk [(ofS "flags",.obj x),(ofS "board",bV b),(ofS "position",ksV pos),(ofS "book",.obj B),(ofS "moves",.obj a0)],hp'⟩=>ForRun.sub (le_loc hl) G) ?_
  clear hl l
  refine (?_:Asg d _ _ _ _ _)
  walk_at "w"
  refine getM_F (name:=ofS "is_") (f:=70) hx (by walk_at "m nolook") (by kernel_rfl!) (by kernel_rfl!) ?_
  walk_at "w"
  refine att_FROZEN ?_
  walk_at "w"
  refine is_spec (R'.le Y40) hkl T.fl ?_
  simp only[owner_FB hst hk hm2]
  walk_at "w"
  refine WS_Cmp2 true (l:=[(ofS "key",kV key)]) (by kernel_rfl!) R'.handled ?_
  walk_at "w"
  refine ⟨_,_,iter_lst,by simp;exact Y105 hlen,⟨by walk_at "l",trivial⟩,fun C0=>?_⟩
  refine comp_pure (f:=kV) (e:=kV) (p:=fun one=>key.isPrefixOf one) (fun v=>[(ofS "key",kV key),(ofS "one",v)]) (by kernel_rfl!) (fun v=>by walk_at "p") (fun u v=>by walk_at "p") trivial pos (fun one ho=>?_) (fun one ho _=>?_) _ ?_
  ·refine (?_:WT d _ _ _ _)
   walk_at "w"
   refine call_lenT (by simpa using hkl) ?_
   walk_at "w"
   rw[List.length_map]
   refine sub_cutK (hkk one ho) ?_
   walk_at "w"
   refine cmp_eqK (R'.le Y37) ?_
   walk_at "w"
   rw[take_pre]
   exact⟨rfl,rfl⟩
  ·walk_at "w"
   exact⟨rfl,rfl⟩
  refine (?_:Asg d _ _ (ksV (fallK pos key)) _ _)
  walk_at "w"
  refine W_Cmp2 true (l:=[(ofS "key",kV key)]) (by kernel_rfl!) R'.handled ?_
  walk_at "w"
  refine sub_lst (v:=ksV b.m2) (by decide) (by decide) rfl ?_
  refine ⟨_,_,iter_lst,by obtain this:=hb.l2;simpa using this,⟨by walk_at "l",trivial⟩,fun C0=>?_⟩
  refine comp_pure (f:=kV) (e:=kV) (p:=fun one=>decide (one.length < key.length)&&decide (key.take one.length=one)) (fun v=>[(ofS "key",kV key),(ofS "one",v)]) (by kernel_rfl!) (fun v=>by walk_at "p") (fun u v=>by walk_at "p") trivial b.m2 (fun one ho=>?_) (fun one ho _=>?_) _ ?_
  ·refine (?_:WT d _ _ _ _)
   refine WT_and ?_
   walk_at "w"
   refine call_lenT (by simpa using (hb.k2 one ho).2) ?_
   walk_at "w"
   refine call_lenT (by simpa using hkl) ?_
   walk_at "w"
   simp only[List.length_map,List.length_map]
   by_cases hlt:one.length < key.length
   ·obtain e1:((one.length:Int) < (key.length:Int)):=Y151 hlt
    simp only[e1,hlt,decide_true,if_true,Bool.true_and]
    refine WT_and ?_
    walk_at "w"
    refine call_lenT (by simpa using (hb.k2 one ho).2) ?_
    walk_at "w"
    simp only[List.length_map]
    refine sub_cutK hkl ?_
    walk_at "w"
    refine cmp_eqK (R'.le Y37) ?_
    walk_at "w"
    cases decide (key.take one.length=one)
    ·exact⟨rfl,rfl⟩
    ·simp only[if_true]
     exact WT_and_nil ⟨rfl,rfl⟩
   ·obtain e1:¬ ((one.length:Int) < (key.length:Int)):=Y205 hlt
    simp only[e1,hlt,decide_false,Bool.false_eq_true,if_false,Bool.false_and]
    exact⟨trivial,trivial⟩
  ·walk_at "w"
   exact⟨rfl,rfl⟩
  refine (?_:W d _ _ _ _)
  refine W_List ?_
  walk_at "w"
  refine ⟨by simp,?_⟩
  refine cmp_neKs (b:=[]) (R'.le Y37) ?_
  refine (?_:AsgAll d _ _ (V.bool (overF b key)) _ _)
  walk_at "w"
  refine W_ListM ?_
  walk_at "w"
  refine getM_F (name:=ofS "unset_all") (f:=56) hx (by walk_at "m nolook") (by kernel_rfl!) (by kernel_rfl!) ?_
  walk_at "w"
  refine unset_spec (R'.le Y40) hkl hk0 T.fl fun hp2 F2 k2=>?_
  simp only[cut_FB hst hk] at F2
  walk_at "w"
  refine ⟨by simp,fun dd fd=>?_⟩
  walk_at "w"
  obtain F3:=F2.fresh (ao:=.list [.none]) fd
  refine elEE (id F3.lays) fun D3 lab3 zz185=>?_;obtain hx3:=zz185.1
  obtain k3:KeepF hp' (updH hp2 dd (.list [.none])):=k2.trans' (KeepF.fresh fd)
  obtain hd3:updH hp2 dd (.list [.none]) dd=some (.list [.none]):=updH_at
  refine WS_Cmp2 true (l:=[(ofS "flags",.obj x)]) (by kernel_rfl!) R'.handled ?_
  walk_at "w"
  refine ⟨_,_,iter_lst,by simp;exact Y105 hlen,⟨by walk_at "l",trivial⟩,fun C0=>?_⟩
  refine comp_pure (f:=kV) (e:=kV) (p:=fun one=>isM (FB b (leftK pos key)) 1 one) (fun v=>[(ofS "flags",.obj x),(ofS "one",v)]) (by kernel_rfl!) (fun v=>by walk_at "p") (fun u v=>by walk_at "p") trivial pos (fun one ho=>?_) (fun one ho _=>?_) _ ?_
  ·refine (?_:WT d _ _ _ _)
   walk_at "w"
   refine getM_F (name:=ofS "is_") (f:=70) hx3 (by walk_at "m nolook") (by kernel_rfl!) (by kernel_rfl!) ?_
   walk_at "w"
   refine att_NEST ?_
   walk_at "w"
   refine is_spec (R'.le Y40) (hkk one ho) F3 ?_
   walk_at "w"
   exact⟨rfl,rfl⟩
  ·walk_at "w"
   exact⟨rfl,rfl⟩
  simp only[left_eq hst]
  refine (?_:Asg d _ _ (ksV (leftK pos key)) _ _)
  walk_at "w"
  obtain hfl:(fallK pos key).length<=4:=Nat.le_trans (List.length_filter_le ..) hlen
  obtain hll:(leftK pos key).length<=4:=Nat.le_trans (List.length_filter_le ..) hlen
  obtain hfk:∀ one∈fallK pos key,one.length<=1000:=fun one ho=>hkk one (List.mem_filter.mp ho).1
  refine WS_Cmp2 true (l:=[(ofS "flags",.obj x)]) (by kernel_rfl!) R'.handled ?_
  walk_at "w"
  refine ⟨_,_,iter_lst,by simp;exact Y105 hfl,⟨by walk_at "l",trivial⟩,fun C0=>?_⟩
  refine comp_pure (f:=kV) (e:=fun _=>V.bool (overF b key)) (p:=fun _=>true) (fun v=>[(ofS "flags",.obj x),(ofS "one",v)]) (by kernel_rfl!) (fun v=>by walk_at "p") (fun u v=>by walk_at "p") trivial (fallK pos key) (fun one ho=>?_) (fun one ho _=>?_) _ ?_
  ·exact⟨rfl,rfl⟩
  ·walk_at "w"
   refine getM_F (name:=ofS "is_") (f:=70) hx3 (by walk_at "m nolook") (by kernel_rfl!) (by kernel_rfl!) ?_
   walk_at "w"
   refine att_FROZEN ?_
   walk_at "w"
   refine is_spec (R'.le Y40) (hfk one ho) F3 ?_
   rw[held_FB hst hk ho hm2]
   exact⟨rfl,rfl⟩
  rw[List.nil_append,List.filter_eq_self.mpr fun _ _=>rfl]
  show Asg d _ _ (.lst ((fallK pos key).map fun _=>V.bool (overF b key))) _ _
  walk_at "w"
  refine getM_list hd3 PySem.F.slot_list_extend PySem.F.type_list_extend ?_
  walk_at "w"
  refine W_Cmp2 true (l:=[(ofS "flags",.obj x)]) (by kernel_rfl!) R'.handled ?_
  walk_at "w"
  refine ⟨_,_,iter_lst,by simp;exact Y105 hfl,⟨by walk_at "l",trivial⟩,fun C0=>?_⟩
  refine comp_inv (f:=kV) (e:=fun _=>V.none) (fun v=>[(ofS "flags",.obj x),(ofS "one",v)]) (fun _ h4=>Flg h4 x (FB b (leftK pos key)) P/\KeepF (updH hp2 dd (.list [.none])) h4) (by kernel_rfl!) (fun v=>by walk_at "p") (fun u v=>by walk_at "p") (fallK pos key) (fun _ _ _=>trivial) (fun done one r h4 hdn hI=>?_) ⟨F3,KeepF.refl _⟩ fun hp4 hI=>?_
  ·have ho:one∈fallK pos key:=by rw[hdn];simp
   refine elA hI fun F4 k4=>?_
   try clear hI
   refine elEEA (id F4.lays) fun D4 lab4 hx4 uu=>?_
   walk_at "w"
   refine getM_F (name:=ofS "unset_all") (f:=56) hx4 (by walk_at "m nolook") (by kernel_rfl!) (by kernel_rfl!) ?_
   walk_at "w"
   refine unset_spec (R'.le Y40) (hfk one ho) (hst.ne one (List.mem_filter.mp ho).1) F4 fun h5 F5 k5=>?_
   rw[cut_again hst hk ho] at F5
   exact⟨rfl,h5,rfl,F5,k4.trans' k5⟩
  refine elA hI fun F4 k4=>?_
  try clear hI
  have hd4:=k4 dd _ hd3 (fun _=>AO.noConfusion) (fun _ _=>AO.noConfusion)
  show WL d _ _ _ _ _
  walk_at "w"
  refine call_extend (vs:=[V.none]) (ws:=(fallK pos key).map fun _=>V.none) hd4 rfl (by simp) (by simp;exact Y105 hfl) ?_
  walk_at "w"
  refine call_len (vs:=(leftK pos key).map kV) rfl (by simp;exact Y105 hll) ?_
  walk_at "w"
  refine bin_mod (by decide) ?_
  walk_at "w"
  have F5:=F4.list (ao:=.list ([V.none]++(fallK pos key).map fun _=>V.none)) hd4
  have hd5:updH hp4 dd (.list ([V.none]++(fallK pos key).map fun _=>V.none)) dd=some (.list ([V.none]++(fallK pos key).map fun _=>V.none)):=updH_at
  have k5:KeepF hp' (updH hp4 dd (.list ([V.none]++(fallK pos key).map fun _=>V.none))):=fun q ao e n1 n2=>(updH_ne fun z=>by
   have:=k2 q ao e n1 n2
   rw[z,show hp2 dd=none from fd] at this;cases this).trans (k4 q ao (k3 q ao e n1 n2) n1 n2)
  refine ite_mid (fun σ'=>∃ hp6,σ'=⟨lk [(ofS "flags",.obj x),(ofS "board",bV b),(ofS "position",ksV pos),(ofS "book",.obj B),(ofS "moves",.obj a0),(ofS "key",kV key),(ofS "owner",.bool (mineM b key)),(ofS "fallen",ksV (fallK pos key)),(ofS "over",.bool (overF b key)),(ofS "deeds",.obj dd),(ofS "left",ksV (leftK pos key)),(ofS "held",.lst ((fallK pos key).map fun _=>V.bool (overF b key))),(ofS "told",.tup [ksV (fallK pos key),ksV []])],hp6⟩ /\
   ∀ q ao,updH hp4 dd (.list ([V.none]++(fallK pos key).map fun _=>V.none)) q=some ao->hp6 q=some ao) ?_ (fun _=>?_) (fun _=>?_)
  rotate_left
  ·walk_at "w"
   refine sld_spec (R'.le Y42) (Y104 hll) (Y104 hlen) hst.left.asc hst.asc fun hp6 k6=>?_
   have e6:=sld_right (q:=fun k=>!key.isPrefixOf k) (n:=(leftK pos key).length+pos.length) hst.asc (by unfold leftK;exact Y147)
   change sld _ (leftK pos key) pos=_ at e6
   rw[e6]
   walk_at "w"
   refine sub_back2 ?_
   walk_at "w"
   refine ⟨rfl,hp6,?_,k6⟩
   simp only[Bool.not_not]
   rfl
  ·walk_at "w"
   refine sld_spec (R'.le Y42) (Y104 hlen) (Y104 hll) hst.asc hst.left.asc fun hp6 k6=>?_
   have e6:=sld_left (q:=fun k=>!key.isPrefixOf k) (n:=pos.length+(leftK pos key).length) hst.asc (by unfold leftK;exact Y146)
   change sld _ pos (leftK pos key)=_ at e6
   rw[e6]
   walk_at "w"
   refine ⟨rfl,hp6,?_,k6⟩
   simp only[Bool.not_not]
   rfl
  intro uu zr1
  refine elEA zr1 fun hp6 hq1 k6=>?_
  try clear zr1
  subst hq1
  have F6:=F5.mono k6
  have k6':=k5.trans' (KeepF.of k6)
  have hd6:=k6 dd _ hd5
  have e0:=e
  unfold goO at e0
  have hvl:vis'.length<=100:=Nat.le_trans (by rw[<- e];exact goO_len (ordF_len f) _ _) hvm
  refine turn2 (x:=x) (B:=B) (a0:=a0) (dd:=dd) (pos:=pos) (key:=key) hb ihf R' hst hk hf F6 hd6 (T.bk.keep k6') hvl ?_ fun hp7 A2 vis2 Q q2=>?_
  ·by_cases z:(vis'.map (·.1)).contains (maskK b.keys (leftK pos key))=true
   ·exact .inr z
   ·rw[if_neg z] at e0
    exact .inl (Nat.le_trans (by rw[<- e0];exact goO_len (ordF_len f) _ _) hvm)
  have hm6:=k6' a0 _ T.mvs (fun _=>AO.noConfusion) (fun _ _=>AO.noConfusion)
  have hm7:=Q.keep a0 _ T.b0 hm6 (fun _=>AO.noConfusion) (fun _ _=>AO.noConfusion)
  have hdl:done.length<=4:=by rw[hd] at hlen;simp at hlen;exact Y126 hlen
  refine turn3 (x:=x) (B:=B) (a0:=a0) (dd:=dd) (pos:=pos) (key:=key) hb R' hst hk Q.fl hm7 (by simp;exact Y103 hdl) fun hp8 ll F8 k8 hl=>?_
  have kl:∀ {q:Addr} {vs:List V},q≠a0->hp7 q=some (.list vs)->hp8 q=some (.list vs):=fun hq e=>k8 _ _ ((updH_ne hq).trans e) (fun _=>AO.noConfusion) (fun _ _=>AO.noConfusion)
  refine elEA T.new fun nw n1 n2=>?_
  refine elEA Q.new fun nw2 w1 w2=>?_
  have hin:∀ m∈vis.map (·.1),m∈vis'.map (·.1):=fun m hmm=>by rw[n1,List.map_append];exact List.mem_append_left _ hmm
  have k67:KeepB B σ.hp hp6:=T.keep.trans (KeepB.of k6')
  refine elE Q.bk.di fun ep7 hB7=>?_
  refine ⟨trivial,ih (done++[key]) A2 vis2 hp8 ll (by rw[hd];simp) ⟨F8,⟨⟨ep7,k8 _ _ ((updH_ne (Ne.symm T.b0)).trans hB7) (fun _=>AO.noConfusion) (fun _ _=>AO.noConfusion)⟩,Q.bk.nd⟩,fun m hmm=>(Q.same m (hin m hmm)).trans (T.same m hmm),?_,?_,⟨nw++nw2,by rw[w1,n1];simp,fun v hv=>?_⟩,fun q ao hq eq z1 z2=>?_,T.f0,T.b0⟩ ?_ hl⟩
  ·rw[Q.same _ (by rw[n1];simp)];exact T.own
  ·refine (k8 a0 _ updH_at (fun _=>AO.noConfusion) (fun _ _=>AO.noConfusion)).trans ?_
   simp only[List.map_append,List.map_cons,List.map_nil]
  ·rcases List.mem_append.mp hv with hv | hv
   ·refine elAAA (n2 v hv) fun r1 r2 r3 r4=>?_
    rw[Q.same v.1 (by rw[n1,List.map_append];exact List.mem_append_right _ (List.mem_cons_of_mem _ (List.mem_map_of_mem hv)))]
    exact⟨kl r4 (Q.keep _ _ r3 (k6' _ _ r1 (fun _=>AO.noConfusion) (fun _ _=>AO.noConfusion)) (fun _=>AO.noConfusion) (fun _ _=>AO.noConfusion)),r2,r3,r4⟩
   ·refine elAA (w2 v hv) fun r1 r2 r3=>?_
    have r4:=r2.ne hm6
    exact⟨kl r4 r1,k67.fre r3 r2,r3,r4⟩
  ·have hq0:q≠a0:=fun z=>clZ T.f0 eq z
   exact k8 _ _ ((updH_ne hq0).trans (Q.keep _ _ hq (k67 _ _ hq eq z1 z2) z1 z2)) z1 z2
  ·by_cases z:(vis'.map (·.1)).contains (maskK b.keys (leftK pos key))=true
   ·rw[if_pos z] at e0 q2;rw[q2];exact e0
   ·rw[if_neg z] at e0 q2;rw[q2];exact e0
end
section
structure BdG (b:Bd) (low:Key):Prop where
 ok:BdOk b
 st:Stand b b.keys
 hd:b.keys[0]? = some low
 l1:low.length=1
 n0:∀ k∈b.keys,(0:Fin 4) ∉ k
 s1:∀ k∈b.m1,k∈b.keys
 s2:∀ k∈b.m2,k∈b.keys
 len:b.keys.length=4
 s3:b.m1.length<=4
 s4:b.m2.length<=4
 ln:∀ k∈b.keys,k.length<=10
theorem BdG.mem {b:Bd} {low:Key} (H:BdG b low):low∈b.keys:=List.mem_of_getElem? H.hd
theorem pre_one {low p:Key} (h:low.length=1) (h0:p≠[]) (hp:p <+: low):p=low:=by
 refine List.IsPrefix.eq_of_length hp ?_
 have:=hp.length_le
 have:0 < p.length:=List.length_pos_iff.mpr h0
 omega
theorem not_left {pos:List Key} {key k:Key} (h:key <+: k):k ∉ leftK pos key:=fun q=>by
 have:=(List.mem_filter.mp q).2
 rw[List.isPrefixOf_iff_prefix.mpr h] at this;cases this
theorem low_zero {b:Bd} {low k:Key} (H:BdG b low) (N:List Key) (hk:low <+: k) (hs:∀ p,p≠[]->p <+: k->p <+: low\/(0:Fin 4)∈p):isM (FG (afB b (leftK b.keys low)) (arB b (leftK b.keys low)) N) 0 k=false:=by
 have hk0:k≠[]:=fun q=>by
  have:=hk.length_le
  rw[q,H.l1] at this;simp at this
 rw[isM0 hk0]
 have e1:k ∉ afB b (leftK b.keys low):=fun q=>not_left hk (List.mem_filter.mp q).1
 rw[decide_eq_false e1,Bool.false_or]
 refine decide_eq_false ?_
 intro zr0
 refine elEAA zr0 fun p q1 q2 q3=>?_
 try clear zr0
 have q4:=(List.mem_filter.mp q1).1
 rcases hs p (Ne.symm q2) q3 with z | z
 ·have:=pre_one H.l1 (Ne.symm q2) z
  rw[this] at q4
  exact not_left (List.prefix_refl low) q4
 ·exact H.n0 p (List.mem_filter.mp q4).1 z
theorem pre_zero {low p:Key} {n:Nat} (hp:p <+: low++List.replicate n 0):p <+: low\/(0:Fin 4)∈p:=by
 rcases List.prefix_or_prefix_of_prefix hp (List.prefix_append low (List.replicate n 0)) with z | ⟨r,rfl⟩
 ·exact .inl z
 ·have hr:r <+: List.replicate n 0:=(List.prefix_append_right_inj low).mp hp
  cases r with
  | nil=>left;rw[List.append_nil];exact List.prefix_refl _
  | cons a r =>
   right
   have:a∈List.replicate n (0:Fin 4):=hr.subset (.head _)
   rw[List.eq_of_mem_replicate this]
   simp
theorem cut_low {b:Bd} {low:Key} (H:BdG b low) {k:Key} (hk:low <+: k):cutF (FG (afB b (leftK b.keys low)) (arB b (leftK b.keys low)) (k::leftK b.keys low)) low=FB b (leftK b.keys low):=by
 rw[cutF_FG fun p h0 hp hne=>absurd (pre_one H.l1 h0 hp) hne]
 unfold FB
 refine FG_congr (fun p=>?_) (fun p=>?_) (fun p=>?_)
 ·rw[List.mem_filter]
  exact⟨fun q=>q.1,fun q=>⟨q,(List.mem_filter.mp (List.mem_filter.mp q).1).2⟩⟩
 ·rw[List.mem_filter]
  exact⟨fun q=>q.1,fun q=>⟨q,(List.mem_filter.mp (List.mem_filter.mp q).1).2⟩⟩
 ·rw[List.mem_filter,List.mem_cons]
  constructor
  ·rintro⟨rfl | q,z⟩
   ·rw[List.isPrefixOf_iff_prefix.mpr hk] at z;cases z
   ·exact q
  ·exact fun q=>⟨.inr q,(List.mem_filter.mp q).2⟩
theorem fin_all {Af Ar:List Key}:∀ {ks N:List Key},(∀ k∈ks,k≠[])->finF (FG Af Ar N) (ks.map fun k=>(k,true))=FG Af Ar (ks.reverse++N)
 | [],N,_=>rfl
 | k::ks,N,h=>by
  show finF (setF (FG Af Ar N) k true false) (ks.map fun k=>(k,true))=_
  rw[setF_N (h k (.head _)),fin_all fun q hq=>h q (.tail _ hq)]
  simp
theorem FB_all {b:Bd} {low:Key} (H:BdG b low) {ks:List Key} (hp:ks.Perm b.keys):FG ((b.m1++b.m2).filter fun k=>!decide (k∈b.m2)) ((b.m1++b.m2).filter fun k=>decide (k∈b.m2)) (ks.reverse++[])=FB b b.keys:=by
 unfold FB afB arB
 refine FG_congr (fun p=>?_) (fun p=>?_) (fun p=>?_)
 ·simp only[List.mem_filter,List.mem_append,Bool.and_eq_true,decide_eq_true_iff,Bool.not_eq_true',decide_eq_false_iff_not]
  constructor
  ·rintro⟨q | q,z⟩
   ·exact⟨H.s1 p q,q,z⟩
   ·exact absurd q z
  ·intro zr0
   refine elAA zr0 fun uu q z=>?_
   try clear zr0
   exact⟨.inl q,z⟩
 ·simp only[List.mem_filter,List.mem_append,decide_eq_true_iff]
  exact⟨fun q=>⟨H.s2 p q.2,q.2⟩,fun q=>⟨.inr q.2,q.2⟩⟩
 ·rw[List.append_nil,List.mem_reverse,hp.mem_iff]
end
section
variable {d:Wd} {c:Cx} {σ:St}
noncomputable def KeepX (P D T:Addr) (hp hp':Addr->Option AO):Prop:=∀ q ao,q≠P->q≠D->q≠T->hp q=some ao->(∀ kvs,ao ≠ .dictS kvs)->(∀ S n,ao ≠ .setI S n)->hp' q=some ao
theorem KeepX.trans {P D T:Addr} {h1 h2 h3:Addr->Option AO} (x:KeepX P D T h1 h2) (y:KeepX P D T h2 h3):KeepX P D T h1 h3:=fun q ao a b e f n1 n2=>y q ao a b e (x q ao a b e f n1 n2) n1 n2
theorem KeepX.ofF {P D T:Addr} {h1 h2:Addr->Option AO} (x:KeepF h1 h2):KeepX P D T h1 h2:=fun q ao _ _ _ f n1 n2=>x q ao f n1 n2
theorem KeepX.ofP {P D T:Addr} {h1 h2:Addr->Option AO} (x:KeepP P h1 h2):KeepX P D T h1 h2:=fun q ao a _ _ f n1 n2=>x q ao a f n1 n2
theorem KeepX.D {P D T:Addr} {h1:Addr->Option AO} {o:AO}:KeepX P D T h1 (updH h1 D o):=fun q ao _ b _ f _ _=>(updH_ne b).trans f
theorem KeepX.T {P D T:Addr} {h1:Addr->Option AO} {o:AO}:KeepX P D T h1 (updH h1 T o):=fun q ao _ _ b f _ _=>(updH_ne b).trans f
theorem KeepX.P {P D T:Addr} {h1:Addr->Option AO} {o:AO}:KeepX P D T h1 (updH h1 P o):=fun q ao b _ _ f _ _=>(updH_ne b).trans f
noncomputable abbrev noneL (n:Nat):AO:=.list (List.replicate n V.none)
noncomputable abbrev falsL (n:Nat):AO:=.list (List.replicate n (V.bool false))
structure BS2 (hp:Addr->Option AO) (x P D T:Addr) (F:FM) (ps:List (Key×Bool)) (nd nf:Nat):Prop where
 fl:Flg hp x F P
 p:∃ ep pl,hp P=some (.setP ((pnd ps).map pV) ep pl)
 d:hp D=some (noneL nd)
 t:hp T=some (falsL nf)
 ne:D≠T
theorem BS2.keep {hp hp':Addr->Option AO} {x P D T:Addr} {F F':FM} {ps:List (Key×Bool)} {nd nf:Nat} (H:BS2 hp x P D T F ps nd nf) (f':Flg hp' x F' P) (k:KeepF hp hp'):BS2 hp' x P D T F' ps nd nf:=by
 refine elEE H.p fun ep pl e=>?_
 exact⟨f',⟨ep,pl,k _ _ e (fun _=>AO.noConfusion) fun _ _=>AO.noConfusion⟩,k _ _ H.d (fun _=>AO.noConfusion) (fun _ _=>AO.noConfusion),k _ _ H.t (fun _=>AO.noConfusion) (fun _ _=>AO.noConfusion),H.ne⟩
theorem BS2.keepP {hp hp':Addr->Option AO} {x P D T:Addr} {F F':FM} {ps ps':List (Key×Bool)} {ep:Nat} {pl:List Nat} {nd nf:Nat} (H:BS2 hp x P D T F ps nd nf) (f':Flg hp' x F' P) (k:KeepP P hp hp') (e':hp' P=some (.setP ((pnd ps').map pV) ep pl)):BS2 hp' x P D T F' ps' nd nf:=by
 refine elEE H.p fun uu uu e=>?_
 have n1:D≠P:=fun q=>by have:=H.d;rw[q,e] at this;cases this
 have n2:T≠P:=fun q=>by have:=H.t;rw[q,e] at this;cases this
 exact⟨f',⟨ep,pl,e'⟩,k _ _ n1 H.d (fun _=>AO.noConfusion) (fun _ _=>AO.noConfusion),k _ _ n2 H.t (fun _=>AO.noConfusion) (fun _ _=>AO.noConfusion),H.ne⟩
theorem BS2.addD {hp:Addr->Option AO} {x P D T:Addr} {F:FM} {ps:List (Key×Bool)} {nd nf m:Nat} (H:BS2 hp x P D T F ps nd nf):BS2 (updH hp D (noneL (nd+m))) x P D T F ps (nd+m) nf:=by
 refine elEE H.p fun ep pl e=>?_
 exact⟨H.fl.list H.d,⟨ep,pl,(updH_ne fun q=>by have:=H.d;rw[<- q,e] at this;cases this).trans e⟩,updH_at,(updH_ne (Ne.symm H.ne)).trans H.t,H.ne⟩
theorem BS2.addT {hp:Addr->Option AO} {x P D T:Addr} {F:FM} {ps:List (Key×Bool)} {nd nf m:Nat} (H:BS2 hp x P D T F ps nd nf):BS2 (updH hp T (falsL (nf+m))) x P D T F ps nd (nf+m):=by
 refine elEE H.p fun ep pl e=>?_
 exact⟨H.fl.list H.t,⟨ep,pl,(updH_ne fun q=>by have:=H.t;rw[<- q,e] at this;cases this).trans e⟩,(updH_ne H.ne).trans H.d,updH_at,H.ne⟩
theorem Flg.setP {hp:Addr->Option AO} {x P a:Addr} {F:FM} {es:List V} {ep:Nat} {pl:List Nat} {ao:AO} (H:Flg hp x F P) (e:hp a=some (.setP es ep pl)):Flg (updH hp a ao) x F P:=by
 refine elEEA H.lays fun D0 lab ex uu=>?_
 exact H.other (fun q=>clA ex e q) (fun _ q=>by rw[e] at q;cases q) (fun _ _ q=>by rw[e] at q;cases q)
theorem BS2.pend {hp:Addr->Option AO} {x P D T:Addr} {F:FM} {ps ps':List (Key×Bool)} {ep:Nat} {pl:List Nat} {nd nf:Nat} (H:BS2 hp x P D T F ps nd nf):BS2 (updH hp P (.setP ((pnd ps').map pV) ep pl)) x P D T F ps' nd nf:=by
 refine elEE H.p fun uu uu e=>?_
 have n1:D≠P:=fun q=>by have:=H.d;rw[q,e] at this;cases this
 have n2:T≠P:=fun q=>by have:=H.t;rw[q,e] at this;cases this
 exact⟨H.fl.setP e,⟨ep,pl,updH_at⟩,(updH_ne n1).trans H.d,(updH_ne n2).trans H.t,H.ne⟩
theorem rep_add {v:V} {n m:Nat}:List.replicate n v++List.replicate m v=List.replicate (n+m) v:=List.replicate_append_replicate
theorem datas_false (n:Nat):datas (List.replicate n (V.bool false))=some (List.replicate n (PyData.bool false)):=by
 have:=datas_of (f:=fun _:Unit=>V.bool false) (g:=fun _=>PyData.bool false) (fun _=>by simp[V.data]) (List.replicate n ())
 simpa [List.map_replicate] using this
theorem any_false (n:Nat):((List.replicate n (PyData.bool false)).any fun y=>PyData.eqv y (.bool true))=false:=by
 rw[List.any_eq_false]
 intro y hy
 rw[List.eq_of_mem_replicate hy]
 simp[PyData.eqv]
theorem cmp_trueIn {T:Addr} {n:Nat} {K:V->St->Prop} (hT:σ.hp T=some (falsL n)) (R:Rm c.A 0) (h:K (.bool false) σ):Cmp d c .In (.bool true) (.obj T) σ K :=
 cmp_inS' (p:=.bool true) rfl (lstOf_obj hT) (datas_false n) (Nat.zero_le _) R (by rw[any_false];exact h)
theorem cmp_trueNotIn {T:Addr} {n:Nat} {K:V->St->Prop} (hT:σ.hp T=some (falsL n)) (R:Rm c.A 0) (h:K (.bool true) σ):Cmp d c .NotIn (.bool true) (.obj T) σ K:=fun g s x y r rx ry=>by
 refine elAE (dataOf_reads (c:=c) (v:=.bool true) (p:=.bool true) rfl r rx) fun l1 as z1=>?_
 refine elAE (dataOf_reads (c:=c) (p:=.list (List.replicate n (PyData.bool false))) (by unfold dataOf;rw[lstOf_obj hT];simp[datas_false]) r ry) fun l2 bs z2=>?_
 exact SeqAt.notIn_list_reads z2 z1 (by simpa [PyData.canLay0] using l2) l1 (by have:=R.lt;have:=Nat.min_le_right (PyData.depthAll (List.replicate n (PyData.bool false))) (PyData.bool true).depth;have e:(PyData.bool true).depth=0:=rfl;omega) (.here r (.raw _) (by rw[any_false];exact h))
theorem low_zero2 {b:Bd} {low:Key} (H:BdG b low) (N:List Key):isM (FG (low::afB b (leftK b.keys low)) (arB b (leftK b.keys low)) N) 0 (low++[0])=false:=by
 have e:=low_zero H N (List.prefix_append low [0]) (fun p _ hp=>pre_zero (n:=1) hp)
 rw[isM0 (by simp)] at e ⊢
 rw[Bool.or_eq_false_iff] at e ⊢
 refine ⟨decide_eq_false fun q=>?_,e.2⟩
 rcases List.mem_cons.mp q with z | z
 ·have:=congrArg List.length z;simp at this
 ·exact decide_eq_false_iff_not.mp e.1 z
noncomputable def fd231 (P:Params):FuncData:=fnData (o231 P)
noncomputable abbrev bookB (n:Nat):List Stmt:=(kidS S16).drop n
noncomputable def bookL (b:Bd) (x B D T:Addr) (low:Key):List (Str×V):=[(ofS "board",bV b),(ofS "flags",.obj x),(ofS "low",kV low),(ofS "deeds",.obj D),(ofS "faults",.obj T),(ofS "book",.obj B)]
theorem book2 {A0:Around} {L:Addr} {b:Bd} {low:Key} (H:BdG b low) {x P B D T:Addr} {nd nf:Nat} {hp:Addr->Option AO} {KT:Fl->St->Prop} (R':Rm (cxOf A0 (fd231 d.w.params) L 231).A 4) (S:BS2 hp x P D T (FB b b.keys) [] nd nf) (hn:nd<=100) (hn2:nf<=100)
  (h:∀ hp' ll,KeepX P D T hp hp'->KT (.ret (.obj B)) ⟨lk ll,hp'⟩):WB d (cxOf A0 (fd231 d.w.params) L 231) (bookB 9) ⟨lk (bookL b x B D T low),hp⟩ KT:=by
 have hl1:=H.l1
 have hlow:low.length<=1000:=by rw[H.l1];exact Y7
 have hl0:low≠[]:=fun q=>by have:=H.l1;rw[q] at this;simp at this
 refine elEEA (id S.fl.lays) fun D1 lab1 hx1 uu=>?_
 unfold bookL
 refine WB_cons ?_
 walk_at "w"
 refine getM_list S.d PySem.F.slot_list_extend PySem.F.type_list_extend ?_
 walk_at "w"
 refine W_List ?_
 walk_at "w"
 refine getM_F (name:=ofS "unset_all") (f:=56) hx1 (by walk_at "m nolook") (by kernel_rfl!) (by kernel_rfl!) ?_
 walk_at "w"
 refine unset_spec (R'.le (by decide)) hlow hl0 S.fl fun hp2 F2 k2=>?_
 rw[cut_FB H.st H.mem] at F2
 have S2:=S.keep F2 k2
 refine elEEA (id F2.lays) fun D2 lab2 hx2 uu=>?_
 walk_at "w"
 refine getM_F (name:=ofS "finalize_pending") (f:=49) hx2 (by walk_at "m nolook") (by kernel_rfl!) (by kernel_rfl!) ?_
 walk_at "w"
 refine elEE S2.p fun ep2 pl2 hP2=>?_
 refine fin_spec (ps:=[]) (R'.le (by decide)) F2 hP2 (fun _ h=>nomatch h) fun hp3 ps3 ep3 hps F3 hP3 k3=>?_
 rw[List.Perm.eq_nil hps] at F3
 change Flg hp3 x (FB b (leftK b.keys low)) P at F3
 have S3:=S2.keepP (ps':=[]) F3 k3 hP3
 walk_at "w"
 refine ⟨by simp,?_⟩
 walk_at "w"
 refine call_extend S3.d (ws:=List.replicate 2 V.none) rfl (by simp;exact Y80 hn) (by simp) ?_
 rw[rep_add]
 have S4:=S3.addD (m:=2)
 have K4:KeepX P D T hp (updH hp3 D (noneL (nd+2))):=(KeepX.ofF k2).trans ((KeepX.ofP k3).trans KeepX.D)
 show Then d _ _ _ _ ⟨_,updH hp3 D (noneL (nd+2))⟩
 generalize updH hp3 D (noneL (nd+2))=hp4 at *
 refine elEEA (id S4.fl.lays) fun D4 lab4 hx4 uu=>?_
 walk_at "w"
 refine getM_list S4.t PySem.F.slot_list_extend PySem.F.type_list_extend ?_
 walk_at "w"
 refine W_List ?_
 walk_at "w"
 refine getM_F (name:=ofS "is_") (f:=70) hx4 (by walk_at "m nolook") (by kernel_rfl!) (by kernel_rfl!) ?_
 walk_at "w"
 refine att_NEST ?_
 walk_at "w"
 refine is_spec (R'.le (by decide)) hlow S4.fl ?_
 rw[nest_FB hl0,decide_eq_false (not_left (List.prefix_refl low))]
 walk_at "w"
 refine getM_F (name:=ofS "is_") (f:=70) hx4 (by walk_at "m nolook") (by kernel_rfl!) (by kernel_rfl!) ?_
 walk_at "w"
 refine W_Tuple ?_
 walk_at "w"
 refine ⟨by simp,?_⟩
 walk_at "w"
 refine att_FROZEN ?_
 walk_at "w"
 refine is_spec (key:=[]) (R'.le (by decide)) (by simp) S4.fl ?_
 rw[show isM (FB b (leftK b.keys low)) 0 []=false from rfl]
 walk_at "w"
 refine ⟨by simp,?_⟩
 walk_at "w"
 refine call_extend S4.t (ws:=List.replicate 2 (V.bool false)) rfl (by simp;exact Y80 hn2) (by simp) ?_
 rw[rep_add]
 have S5:=S4.addT (m:=2)
 have K5:KeepX P D T hp (updH hp4 T (falsL (nf+2))):=K4.trans KeepX.T
 show Then d _ _ _ _ ⟨_,updH hp4 T (falsL (nf+2))⟩
 generalize updH hp4 T (falsL (nf+2))=hp5 at *
 refine elEEA (id S5.fl.lays) fun D5 lab5 hx5 uu=>?_
 walk_at "w"
 refine getM_F (name:=ofS "set") (f:=63) hx5 (by walk_at "m nolook") (by kernel_rfl!) (by kernel_rfl!) ?_
 refine WC_K (by kernel_rfl!) (by kernel_rfl!) ?_
 refine WA_kw (names:=[ofS "recursive"]) ?h1 ?h2 ?_ ?h3
 case h1=>rfl
 case h2=>rfl
 case h3=>rfl
 walk_at "w"
 refine W_Tuple ?_
 walk_at "w"
 refine ⟨by simp,?_⟩
 refine bin_addT (by simpa using hlow) (by simp) ?_
 rw[show low.map nV++[V.str (Str.ofString ""),V.str (Str.ofString "")]=(low++[0,0]).map nV by rw[List.map_append];rfl]
 walk_at "w"
 refine att_NEST ?_
 walk_at "w"
 refine WK_cons ?_
 walk_at "w"
 refine WK_nil ⟨rfl,?_⟩
 refine call_set2 (e:=true) (R'.le (by decide)) (by simp;exact Y62 hl1) (by simp) S5.fl (fun hp6 F6 k6=>?_) rfl
 rw[show FB b (leftK b.keys low)=FG (afB b (leftK b.keys low)) (arB b (leftK b.keys low)) (leftK b.keys low) from rfl,setF_N (by simp)] at F6
 have S6:=S5.keep F6 k6
 have K6:=K5.trans (KeepX.ofF k6)
 clear S5 K5 S4 K4 hx5 hx4 k6
 refine elEEA (id S6.fl.lays) fun D6 lab6 hx6 uu=>?_
 refine elEE S6.p fun ep6 pl6 hP6=>?_
 walk_at "w"
 refine getM_F (name:=ofS "add_pending") (f:=42) hx6 (by walk_at "m nolook") (by kernel_rfl!) (by kernel_rfl!) ?_
 walk_at "w"
 refine att_FROZEN ?_
 walk_at "w"
 refine addp_spec (p:=(low,0)) (ps:=[]) (R'.le (by decide)) S6.fl hP6 (by simp) hl0 (by simp) fun ps7 ep7 pl7 hps7=>?_
 obtain rfl:=List.perm_singleton.mp hps7
 have S7:=S6.pend (ps':=[(low,false)]) (ep:=ep7) (pl:=pl7)
 have K7:KeepX P D T hp (updH hp6 P (.setP ((pnd [(low,false)]).map pV) ep7 pl7)):=K6.trans KeepX.P
 show Then d _ _ _ _ ⟨_,updH hp6 P (.setP ((pnd [(low,false)]).map pV) ep7 pl7)⟩
 generalize updH hp6 P (.setP ((pnd [(low,false)]).map pV) ep7 pl7)=hp7 at *
 refine elEEA (id S7.fl.lays) fun D7 lab7 hx7 uu=>?_
 walk_at "w"
 refine getM_list S7.t PySem.F.slot_list_append PySem.F.type_list_append ?_
 walk_at "w"
 refine getM_F (name:=ofS "is_") (f:=70) hx7 (by walk_at "m nolook") (by kernel_rfl!) (by kernel_rfl!) ?_
 walk_at "w"
 refine att_FROZEN ?_
 walk_at "w"
 refine is_spec (R'.le (by decide)) hlow S7.fl ?_
 rw[low_zero H _ (List.prefix_refl low) fun p _ hp=>.inl hp]
 walk_at "w"
 refine call_append S7.t (by simp;exact Y83 hn2) ?_
 rw[show List.replicate (nf+2) (V.bool false)++[V.bool false]=List.replicate (nf+2+1) (V.bool false) from rep_add (m:=1)]
 have S8:=S7.addT (m:=1)
 have K8:KeepX P D T hp (updH hp7 T (falsL (nf+2+1))):=K7.trans KeepX.T
 show Then d _ _ _ _ ⟨_,updH hp7 T (falsL (nf+2+1))⟩
 generalize updH hp7 T (falsL (nf+2+1))=hp8 at *
 refine elEEA (id S8.fl.lays) fun D8 lab8 hx8 uu=>?_
 walk_at "w"
 refine getM_F (name:=ofS "unset_all") (f:=56) hx8 (by walk_at "m nolook") (by kernel_rfl!) (by kernel_rfl!) ?_
 walk_at "w"
 refine unset_spec (R'.le (by decide)) hlow hl0 S8.fl fun hp9 F9 k9=>?_
 rw[cut_low H (List.prefix_append low [0,0])] at F9
 have S9:=S8.keep F9 k9
 have K9:=K8.trans (KeepX.ofF k9)
 clear S8 K8 S7 K7 S6 K6 hx8 hx7 hx6 k9 hP6 F6 F9
 refine elEEA (id S9.fl.lays) fun D9 lab9 hx9 uu=>?_
 walk_at "w"
 refine getM_list S9.t PySem.F.slot_list_append PySem.F.type_list_append ?_
 walk_at "w"
 refine getM_F (name:=ofS "is_") (f:=70) hx9 (by walk_at "m nolook") (by kernel_rfl!) (by kernel_rfl!) ?_
 walk_at "w"
 refine W_Tuple ?_
 walk_at "w"
 refine ⟨by simp,?_⟩
 refine bin_addT (by simpa using hlow) (by simp) ?_
 rw[show low.map nV++[V.str (Str.ofString ""),V.str (Str.ofString "")]=(low++[0,0]).map nV by rw[List.map_append];rfl]
 walk_at "w"
 refine att_NEST ?_
 walk_at "w"
 refine is_spec (R'.le (by decide)) (by simp;exact Y62 hl1) S9.fl ?_
 rw[nest_FB (by simp),decide_eq_false (not_left (List.prefix_append low [0,0]))]
 walk_at "w"
 refine call_append S9.t (by simp;exact Y82 hn2) ?_
 rw[show List.replicate (nf+2+1) (V.bool false)++[V.bool false]=List.replicate (nf+2+1+1) (V.bool false) from rep_add (m:=1)]
 have S10:=S9.addT (m:=1)
 have K10:KeepX P D T hp (updH hp9 T (falsL (nf+2+1+1))):=K9.trans KeepX.T
 show Then d _ _ _ _ ⟨_,updH hp9 T (falsL (nf+2+1+1))⟩
 generalize updH hp9 T (falsL (nf+2+1+1))=hp10 at *
 refine elEEA (id S10.fl.lays) fun D10 lab10 hx10 uu=>?_
 refine elEE S10.p fun ep10 pl10 hP10=>?_
 walk_at "w"
 refine getM_F (name:=ofS "finalize_pending") (f:=49) hx10 (by walk_at "m nolook") (by kernel_rfl!) (by kernel_rfl!) ?_
 walk_at "w"
 refine fin_spec (ps:=[(low,false)]) (R'.le (by decide)) S10.fl hP10 (fun p hp=>by simp only[List.mem_singleton] at hp;subst hp;exact⟨hl0,hlow⟩) fun hp11 ps11 ep11 hps F11 hP11 k11=>?_
 obtain rfl:=List.perm_singleton.mp hps
 have eF:finF (FB b (leftK b.keys low)) [(low,false)]=FG (low::afB b (leftK b.keys low)) (arB b (leftK b.keys low)) (leftK b.keys low):=setF_f hl0
 rw[eF] at F11
 have S11:=S10.keepP (ps':=[]) F11 k11 hP11
 have K11:=K10.trans (KeepX.ofP k11)
 refine elEEA (id S11.fl.lays) fun D11 lab11 hx11 uu=>?_
 walk_at "w"
 refine getM_list S11.t PySem.F.slot_list_extend PySem.F.type_list_extend ?_
 walk_at "w"
 refine W_List ?_
 walk_at "w"
 refine getM_F (name:=ofS "is_") (f:=70) hx11 (by walk_at "m nolook") (by kernel_rfl!) (by kernel_rfl!) ?_
 walk_at "w"
 refine att_FROZEN ?_
 walk_at "w"
 refine is_spec (R'.le (by decide)) hlow S11.fl ?_
 rw[isM0 hl0,decide_eq_true (List.mem_cons_self ..),Bool.true_or]
 walk_at "w"
 refine getM_F (name:=ofS "is_") (f:=70) hx11 (by walk_at "m nolook") (by kernel_rfl!) (by kernel_rfl!) ?_
 walk_at "w"
 refine W_Tuple ?_
 walk_at "w"
 refine ⟨by simp,?_⟩
 refine bin_addT (by simpa using hlow) (by simp) ?_
 rw[show low.map nV++[V.str (Str.ofString "")]=(low++[0]).map nV by rw[List.map_append];rfl]
 walk_at "w"
 refine att_FROZEN ?_
 walk_at "w"
 refine is_spec (R'.le (by decide)) (by simp;exact Y63 hl1) S11.fl ?_
 rw[low_zero2 H]
 walk_at "w"
 refine ⟨by simp,?_⟩
 walk_at "w"
 refine call_extend S11.t (ws:=List.replicate 2 (V.bool false)) rfl (by simp;exact Y81 hn2) (by simp) ?_
 rw[rep_add]
 have S12:=S11.addT (m:=2)
 have K12:KeepX P D T hp (updH hp11 T (falsL (nf+2+1+1+2))):=K11.trans KeepX.T
 show Then d _ _ _ _ ⟨_,updH hp11 T (falsL (nf+2+1+1+2))⟩
 generalize updH hp11 T (falsL (nf+2+1+1+2))=hp12 at *
 have hD12:=S12.d
 walk_at "w"
 refine cmp_trueIn S12.t (R'.le (by decide)) ?_
 walk_at "w"
 try simp only[Bool.false_eq_true,if_false]
 walk_at "w"
 refine W_Cmp2 true (l:=[]) (by kernel_rfl!) R'.handled ?_
 walk_at "w"
 rw[show noneL (nd+2) = .list ((List.replicate (nd+2) ()).map fun _=>V.none) by rw[List.map_replicate]] at hD12
 refine ⟨_,_,iter_list hD12,by simp;exact Y83 hn,trivial,fun C0=>?_⟩
 refine comp_pure (α:=Unit) (f:=fun _=>V.none) (e:=fun _=>V.none) (p:=fun _=>false) (fun v=>[(ofS "deed",v)]) (by kernel_rfl!) (fun v=>by walk_at "p") (fun u v=>by walk_at "p") hD12 (List.replicate (nd+2) ()) (fun one ho=>?_) (fun one ho hno=>nomatch hno) _ ?_
 ·show WT d _ _ _ _
  walk_at "w"
  refine cmp_isNotNone (b:=true) rfl ?_
  walk_at "w"
  exact⟨rfl,rfl⟩
 rw[List.nil_append,List.filter_eq_nil_iff.mpr fun _ _=>by simp]
 show W d _ _ _ _
 refine W_List ?_
 walk_at "w"
 refine ⟨by simp,?_⟩
 refine cmp_neKs (a:=[]) (b:=[]) (R'.le (by decide)) ?_
 walk_at "w"
 try simp only[decide_true,Bool.not_true,Bool.false_eq_true,if_false]
 walk_at "w"
 try simp only[Bool.false_eq_true,if_false]
 walk_at "w"
 exact h hp12 _ K12
end
section
variable {d:Wd} {c:Cx} {σ:St}
theorem Asc.nodup {l:List Key} (h:Asc l):l.Nodup:=h.imp fun {a b} q e=>by rw[e,kLt_irr] at q;cases q
theorem map_none {α:Type} {v:V} {l:List α} {n:Nat} (h:l.length=n):(l.map fun _=>v)=List.replicate n v:=by rw[List.map_const',h]
theorem none_FG:(fun _=>none:FM)=FG [] [] []:=FG_none.symm
theorem set_step {m2 done:List Key} {k:Key} (hk:k≠[]):setF (FG (done.filter fun k=>!decide (k∈m2)) (done.filter fun k=>decide (k∈m2)) []) k false (decide (k∈m2))=FG ((done++[k]).filter fun k=>!decide (k∈m2)) ((done++[k]).filter fun k=>decide (k∈m2)) []:=by
 by_cases e:k∈m2
 ·rw[decide_eq_true e,setF_r hk]
  exact FG_congr (fun p=>by simp[e]) (fun p=>by simp[e,or_comm]) fun _=>Iff.rfl
 ·rw[decide_eq_false e,setF_f hk]
  exact FG_congr (fun p=>by simp[e,or_comm]) (fun p=>by simp[e]) fun _=>Iff.rfl
theorem ok231 (d:Wd):FnOk d 231 (fd231 d.w.params) (kidS S16) [ofS "board"]:=⟨⟨o231 d.w.params,by kernel_rfl!,by kernel_rfl!⟩,by kernel_rfl!,by kernel_rfl!,by kernel_rfl!,fun L=>by kernel_rfl!,by kernel_rfl!,by kernel_rfl!,by kernel_rfl!,by kernel_rfl!,by kernel_rfl!,by kernel_rfl!⟩
theorem book_spec {b:Bd} {low:Key} (H:BdG b low) {K:V->St->Prop} (R:Rm c.A 10) (hlen:(ordF b.keys 5 b.keys []).length<=100)
  (h:∀ hp' B A',Bk hp' B A' (ordF b.keys 5 b.keys [])->(∀ v∈ordF b.keys 5 b.keys [],hp' (A' v.1)=some (.list ((mvF b v.2).map mvV)))->K (.obj B) ⟨σ.loc,hp'⟩):CallV d c (.ref 231) [bV b] [] σ K:=by
 refine CallV_ok (bs:=[(ofS "board",bV b)]) (ok231 d) R.room (bind1 fun u=>rfl) (fun L=>?_)
 have R':Rm (cxOf c.A (fd231 d.w.params) L 231).A 9:=R.in
 have hk4:=H.len
 obtain hs3:=H.s3
 obtain hs4:=H.s4
 have hkk:∀ k∈b.keys,k.length<=1000/\k≠[]:=fun k hk=>⟨(H.ok.kk k hk).2,(H.ok.kk k hk).1⟩
 refine WB_cons ?_
 walk_at "w"
 refine call_Flags (R'.le (by decide)) fun x P hp1 F1 hP1 _=>?_
 rw[none_FG] at F1
 refine elEE (id F1.lays) fun D1 lab1 zz50=>?_;obtain hx1:=zz50.1
 walk_at "w"
 refine sub_lst (v:=ksV b.keys) (by decide) (by decide) rfl ?_
 walk_at "w"
 refine sub_lst (v:=kV low) (by decide) (by decide) (by rw[List.getElem?_map];show Option.map kV b.keys[0]? = _;rw[H.hd];rfl) ?_
 walk_at "w"
 refine WS_Cmp2 false (l:=[(ofS "flags",.obj x)]) (by kernel_rfl!) R'.handled ?_
 walk_at "w"
 refine sub_lst (v:=ksV b.keys) (by decide) (by decide) rfl ?_
 refine ⟨_,_,iter_lst,by simp;exact Y68 hk4,⟨by walk_at "l",trivial⟩,fun C0=>?_⟩
 refine comp_inv (f:=kV) (e:=fun _=>V.none) (fun v=>[(ofS "flags",.obj x),(ofS "key",v)]) (fun done hp=>Flg hp x (FG [] [] []) P/\∃ ps ep pl,hp P=some (.setP ((pnd ps).map pV) ep pl)/\ps.Perm (done.map fun k=>(k,true))) (by kernel_rfl!) (fun v=>by walk_at "p") (fun u v=>by walk_at "p") b.keys (fun _ _ _=>trivial) (fun done key r hp2 hdn hI=>?_) ⟨F1,[],_,_,hP1,List.Perm.refl _⟩ fun hp2 hI=>?_
 ·refine elAEE hI fun F2 ps ep zz0=>?_;refine elEA zz0 fun pl hP2 hpm=>?_;try clear hI
  have hin:key∈b.keys:=by rw[hdn];simp
  have hnd:key ∉ done:=fun q=>by
   have:=H.st.asc.nodup
   rw[hdn,List.nodup_append] at this
   exact this.2.2 key q key (.head _) rfl
  have hl3:ps.length<=3:=by
   have e1:=hpm.length_eq
   have e2:=congrArg List.length hdn
   simp at e1 e2;exact Y240 hk4 e1 e2
  refine elEEA (id F2.lays) fun D2 lab2 hx2 uu=>?_
  walk_at "w"
  refine getM_F (name:=ofS "add_pending") (f:=42) hx2 (by walk_at "m nolook") (by kernel_rfl!) (by kernel_rfl!) ?_
  walk_at "w"
  refine att_NEST ?_
  walk_at "w"
  refine addp_spec (p:=(key,1)) (ps:=pnd ps) (R'.le (by decide)) F2 hP2 (by unfold pnd;simpa using hl3) (hkk key hin).2 (fun q=>?_) fun ps' ep' pl' hps=>?_
  ·unfold pnd at q
   refine elEA (List.mem_map.mp q) fun p q1 q2=>?_
   refine elEA (List.mem_map.mp (hpm.mem_iff.mp q1)) fun k' q3 hq2=>?_
   subst hq2
   cases q2;exact hnd q3
  ·refine elEA (perm_map (f:=fun p:Key×Bool=>(p.1,flI p.2)) (l:=(key,true)::ps) hps rfl) fun qs q1 hq2=>?_;subst hq2
   refine ⟨rfl,_,rfl,F2.setP hP2,qs,ep',pl',updH_at,q1.trans ?_⟩
   rw[List.map_append]
   exact ((hpm.cons _).trans (List.perm_append_singleton _ _).symm)
 refine elAEE hI fun F2 ps ep zz0=>?_
 refine elEA zz0 fun pl hP2 hpm=>?_
 try clear hI
 rw[map_none hk4]
 intro D fD
 have F3:=F2.fresh (ao:=noneL 4) fD
 have hP3:updH hp2 D (noneL 4) P=_:=(updH_ne fun q=>by rw[<- q] at fD;rw[show hp2 P=none from fD] at hP2;cases hP2).trans hP2
 have hD3:updH hp2 D (noneL 4) D=some (noneL 4):=updH_at
 show Asg d _ _ _ ⟨_,updH hp2 D (noneL 4)⟩ _
 generalize updH hp2 D (noneL 4)=hp3 at *
 clear fD hP2 F2 hP1 hx1 F1
 refine elEEA (id F3.lays) fun D3 lab3 hx3 uu=>?_
 walk_at "w"
 refine getM_list hD3 PySem.F.slot_list_extend PySem.F.type_list_extend ?_
 walk_at "w"
 refine W_Cmp2 true (l:=[(ofS "flags",.obj x),(ofS "board",bV b)]) (by kernel_rfl!) R'.handled ?_
 walk_at "w"
 refine sub_lst (v:=ksV b.m1) (by decide) (by decide) rfl ?_
 walk_at "w"
 refine sub_lst (v:=ksV b.m2) (by decide) (by decide) rfl ?_
 refine bin_addL (vs:=b.m1.map kV) (ws:=b.m2.map kV) rfl rfl (by simp;exact Y105 hs3) (by simp;exact Y105 hs4) ?_
 rw[<- List.map_append]
 refine ⟨_,_,iter_lst,by simp;exact Y166 hs3 hs4,⟨by walk_at "l",by walk_at "l",trivial⟩,fun C0=>?_⟩
 refine comp_inv (f:=kV) (e:=fun _=>V.none) (fun v=>[(ofS "flags",.obj x),(ofS "board",bV b),(ofS "key",v)]) (fun done hp=>Flg hp x (FG (done.filter fun k=>!decide (k∈b.m2)) (done.filter fun k=>decide (k∈b.m2)) []) P/\KeepF hp3 hp) (by kernel_rfl!) (fun v=>by walk_at "p") (fun u v=>by walk_at "p") (b.m1++b.m2) (fun _ _ _=>trivial) (fun done key r hp4 hdn hI=>?_) ⟨F3,KeepF.refl _⟩ fun hp4 hI=>?_
 ·refine elA hI fun F4 k4=>?_;try clear hI
  have hin:key∈b.keys:=by
   have:key∈b.m1++b.m2:=by rw[hdn];simp
   rcases List.mem_append.mp this with q | q
   ·exact H.s1 _ q
   ·exact H.s2 _ q
  refine elEEA (id F4.lays) fun D4 lab4 hx4 uu=>?_
  walk_at "w"
  refine getM_F (name:=ofS "set") (f:=63) hx4 (by walk_at "m nolook") (by kernel_rfl!) (by kernel_rfl!) ?_
  refine WC_K (by kernel_rfl!) (by kernel_rfl!) ?_
  refine WA_kw (names:=[ofS "recursive"]) ?h1 ?h2 ?_ ?h3
  case h1=>rfl
  case h2=>rfl
  case h3=>rfl
  walk_at "w"
  refine att_FROZEN ?_
  walk_at "w"
  refine WK_cons ?_
  walk_at "w"
  refine sub_lst (v:=ksV b.m2) (by decide) (by decide) rfl ?_
  refine cmp_inK (R'.le (by decide)) ?_
  walk_at "w"
  refine WK_nil ⟨rfl,?_⟩
  show CallV d _ (.ref 63) [.obj x,kV key,.int 0] [(ofS "recursive",.bool (decide (key∈b.m2)))] ⟨_,hp4⟩ _
  refine call_set2 (c:=cxC (cxOf c.A (fd231 d.w.params) L 231) _ C0) (σ:=⟨_,hp4⟩) (e:=false) (R'.le (by decide)) (hkk key hin).1 (hkk key hin).2 F4 (fun hp5 F5 k5=>?_) rfl
  rw[set_step (hkk key hin).2] at F5
  exact⟨rfl,hp5,rfl,F5,k4.trans' k5⟩
 refine elA hI fun F4 k4=>?_
 try clear hI
 rw[map_none (n:=(b.m1++b.m2).length) rfl]
 have hD4:=k4 D _ hD3 (fun _=>AO.noConfusion) (fun _ _=>AO.noConfusion)
 have hP4:=k4 P _ hP3 (fun _=>AO.noConfusion) (fun _ _=>AO.noConfusion)
 show WL d _ _ _ _ _
 walk_at "w"
 refine call_extend hD4 (ws:=List.replicate (b.m1++b.m2).length V.none) rfl (by simp) (by simp;exact Y166 hs3 hs4) ?_
 rw[rep_add]
 have hnd:4+(b.m1++b.m2).length<=12:=by simp;exact Y165 hs3 hs4
 have F5:=F4.list (ao:=noneL (4+(b.m1++b.m2).length)) hD4
 have hP5:updH hp4 D (noneL (4+(b.m1++b.m2).length)) P=_:=(updH_ne fun q=>clA hD4 hP4 q).trans hP4
 have hD5:updH hp4 D (noneL (4+(b.m1++b.m2).length)) D=some (noneL (4+(b.m1++b.m2).length)):=updH_at
 show Then d _ _ _ _ ⟨_,updH hp4 D (noneL (4+(b.m1++b.m2).length))⟩
 generalize updH hp4 D (noneL (4+(b.m1++b.m2).length))=hp5 at *
 generalize 4+(b.m1++b.m2).length=nd at *
 clear hD4 hP4 F4 k4 hD3 hP3 hx3 F3
 refine elEEA (id F5.lays) fun D5 lab5 hx5 uu=>?_
 walk_at "w"
 refine WS_Cmp2 false (l:=[(ofS "flags",.obj x)]) (by kernel_rfl!) R'.handled ?_
 walk_at "w"
 refine sub_lst (v:=ksV b.keys) (by decide) (by decide) rfl ?_
 refine ⟨_,_,iter_lst,by simp;exact Y68 hk4,⟨by walk_at "l",trivial⟩,fun C0=>?_⟩
 refine comp_pure (f:=kV) (e:=fun _=>V.bool false) (p:=fun _=>true) (fun v=>[(ofS "flags",.obj x),(ofS "key",v)]) (by kernel_rfl!) (fun v=>by walk_at "p") (fun u v=>by walk_at "p") trivial b.keys (fun key hin=>?_) (fun key hin _=>?_) _ ?_
 ·exact⟨rfl,rfl⟩
 ·walk_at "w"
  refine getM_F (name:=ofS "is_") (f:=70) hx5 (by walk_at "m nolook") (by kernel_rfl!) (by kernel_rfl!) ?_
  walk_at "w"
  refine att_NEST ?_
  walk_at "w"
  refine is_spec (R'.le (by decide)) (hkk key hin).1 F5 ?_
  rw[isM1 (hkk key hin).2]
  exact⟨rfl,rfl⟩
 rw[List.nil_append,List.filter_eq_self.mpr fun _ _=>rfl,map_none hk4]
 intro T fT
 have nDT:D≠T:=fun q=>by rw[q] at hD5;rw[show hp5 T=none from fT] at hD5;cases hD5
 have S6:BS2 (updH hp5 T (falsL 4)) x P D T (FG ((b.m1++b.m2).filter fun k=>!decide (k∈b.m2)) ((b.m1++b.m2).filter fun k=>decide (k∈b.m2)) []) ps nd 4 :=
  ⟨F5.fresh fT,⟨ep,pl,(updH_ne fun q=>by rw[q] at hP5;rw[show hp5 T=none from fT] at hP5;cases hP5).trans hP5⟩,(updH_ne nDT).trans hD5,updH_at,nDT⟩
 show Asg d _ _ _ ⟨_,updH hp5 T (falsL 4)⟩ _
 generalize updH hp5 T (falsL 4)=hp6 at *
 clear fT hD5 hP5 F5 hx5
 refine elEEA (id S6.fl.lays) fun D6 lab6 hx6 uu=>?_
 refine elEE S6.p fun ep6 pl6 hP6=>?_
 walk_at "w"
 refine getM_list S6.d PySem.F.slot_list_append PySem.F.type_list_append ?_
 walk_at "w"
 refine getM_F (name:=ofS "finalize_pending") (f:=49) hx6 (by walk_at "m nolook") (by kernel_rfl!) (by kernel_rfl!) ?_
 walk_at "w"
 refine fin_spec (ps:=ps) (R'.le (by decide)) S6.fl hP6 (fun p hp=>?_) fun hp7 ps7 ep7 hps7 F7 hP7 k7=>?_
 ·refine elEA (List.mem_map.mp (hpm.mem_iff.mp hp)) fun k hk hq2=>?_;subst hq2
  exact⟨(hkk k hk).2,(hkk k hk).1⟩
 refine elEA (perm_map (f:=fun k:Key=>(k,true)) (l:=b.keys) (hps7.trans hpm) rfl) fun ks q1 hq2=>?_
 subst hq2
 rw[fin_all fun k hk=>(hkk k (q1.mem_iff.mp hk)).2,FB_all H q1] at F7
 have S7:=S6.keepP (ps':=[]) F7 k7 hP7
 clear S6 hx6 hP6 F7 k7 hP7
 walk_at "w"
 refine call_append S7.d (by simp;exact Y92 hnd) ?_
 rw[show List.replicate nd V.none++[V.none]=List.replicate (nd+1) V.none from rep_add (m:=1)]
 have S8:=S7.addD (m:=1)
 show Then d _ _ _ _ ⟨_,updH hp7 D (noneL (nd+1))⟩
 generalize updH hp7 D (noneL (nd+1))=hp8 at *
 clear S7
 refine elEEA (id S8.fl.lays) fun D8 lab8 hx8 uu=>?_
 walk_at "w"
 refine getM_list S8.t PySem.F.slot_list_extend PySem.F.type_list_extend ?_
 walk_at "w"
 refine W_Cmp2 true (l:=[(ofS "flags",.obj x)]) (by kernel_rfl!) R'.handled ?_
 walk_at "w"
 refine sub_lst (v:=ksV b.keys) (by decide) (by decide) rfl ?_
 refine ⟨_,_,iter_lst,by simp;exact Y68 hk4,⟨by walk_at "l",trivial⟩,fun C0=>?_⟩
 refine comp_pure (f:=kV) (e:=fun _=>V.bool false) (p:=fun _=>true) (fun v=>[(ofS "flags",.obj x),(ofS "key",v)]) (by kernel_rfl!) (fun v=>by walk_at "p") (fun u v=>by walk_at "p") trivial b.keys (fun key hin=>?_) (fun key hin _=>?_) _ ?_
 ·exact⟨rfl,rfl⟩
 ·refine W_or ?_
  walk_at "w"
  refine getM_F (name:=ofS "is_") (f:=70) hx8 (by walk_at "m nolook") (by kernel_rfl!) (by kernel_rfl!) ?_
  walk_at "w"
  refine att_NEST ?_
  walk_at "w"
  refine is_spec (R'.le (by decide)) (hkk key hin).1 S8.fl ?_
  rw[nest_FB (hkk key hin).2,decide_eq_true hin]
  walk_at "w"
  try simp only[Bool.not_true,Bool.false_eq_true,if_false]
  walk_at "w"
  refine getM_F (name:=ofS "is_") (f:=70) hx8 (by walk_at "m nolook") (by kernel_rfl!) (by kernel_rfl!) ?_
  walk_at "w"
  refine W_Tuple ?_
  walk_at "w"
  refine ⟨by simp,?_⟩
  have hkl:=(hkk key hin).1
  refine bin_addT (by simpa using hkl) (by simp) ?_
  rw[show key.map nV++[V.str (Str.ofString "")]=(key++[0]).map nV by rw[List.map_append];rfl]
  walk_at "w"
  refine att_NEST ?_
  walk_at "w"
  refine is_spec (R'.le (by decide)) (by have:=(H.ok.kk key hin).2;have e:=H.ln key hin;simp;exact Y77 e) S8.fl ?_
  rw[nest_FB (by simp),decide_eq_false fun q=>H.n0 _ q (by simp)]
  exact⟨rfl,rfl⟩
 rw[List.nil_append,List.filter_eq_self.mpr fun _ _=>rfl,map_none hk4]
 show WL d _ _ _ _ _
 walk_at "w"
 refine call_extend S8.t (ws:=List.replicate 4 (V.bool false)) rfl (by simp) (by simp) ?_
 rw[rep_add]
 have S9:=S8.addT (m:=4)
 show Then d _ _ _ _ ⟨_,updH hp8 T (falsL (4+4))⟩
 generalize updH hp8 T (falsL (4+4))=hp9 at *
 clear S8 hx8
 walk_at "w"
 refine W_DictI fun B epB fB=>?_
 walk_at "w"
 have S10:=S9.keep (S9.fl.fresh (ao:=.dictI [] epB) fB) (KeepF.fresh fB)
 have B10:Bk (updH hp9 B (.dictI [] epB)) B (fun _=>0) []:=⟨⟨epB,updH_at⟩,List.nodup_nil⟩
 refine cmp_trueNotIn S10.t (R'.le (by decide)) ?_
 walk_at "w"
 try simp only[if_true]
 walk_at "w"
 refine sub_lst (v:=ksV b.keys) (by decide) (by decide) rfl ?_
 walk_at "w"
 refine play_spec H.ok 5 (pos:=b.keys) (A:=fun _=>0) (vis:=[]) R' (Y65 hk4) H.st S10.fl B10 (by simp) hlen fun hp11 A' Q=>?_
 change PlayR b (updH hp9 B (.dictI [] epB)) hp11 x P B (fun _=>0) A' [] (ordF b.keys 5 b.keys []) b.keys at Q
 generalize updH hp9 B (.dictI [] epB)=hp10 at *
 refine elEE S10.p fun ep10 pl10 hP10=>?_
 have nPB:P≠B:=fun q=>by
  refine elE B10.di fun ep e=>?_
  rw[<- q,hP10] at e;cases e
 have nDB:D≠B:=fun q=>by
  refine elE B10.di fun ep e=>?_
  rw[<- q,S10.d] at e;cases e
 have nTB:T≠B:=fun q=>by
  refine elE B10.di fun ep e=>?_
  rw[<- q,S10.t] at e;cases e
 have hP11:=Q.keep _ _ nPB hP10 (fun _=>AO.noConfusion) (fun _ _=>AO.noConfusion)
 have S11:BS2 hp11 x P D T (FB b b.keys) [] (nd+1) (4+4):=⟨Q.fl,⟨ep10,pl10,hP11⟩,Q.keep _ _ nDB S10.d (fun _=>AO.noConfusion) (fun _ _=>AO.noConfusion),Q.keep _ _ nTB S10.t (fun _=>AO.noConfusion) (fun _ _=>AO.noConfusion),S10.ne⟩
 walk_at "m1"
 walk_at "m1"
 walk_at "m1"
 refine book2 (x:=x) (B:=B) (D:=D) (T:=T) (low:=low) H (R'.le (by decide)) S11 (Y91 hnd) Y10 fun hp12 ll K12=>?_
 refine elE Q.bk.di fun ep11 hB11=>?_
 refine h hp12 B A' ⟨⟨ep11,K12 _ _ (Ne.symm nPB) (Ne.symm nDB) (Ne.symm nTB) hB11 (fun _=>AO.noConfusion) (fun _ _=>AO.noConfusion)⟩,Q.bk.nd⟩ fun v hv=>?_
 refine elEA Q.new fun nw w1 w2=>?_
 rw[List.nil_append] at w1
 rw[w1] at hv
 refine elAA (w2 v hv) fun r1 r2 r3=>?_
 exact K12 _ _ (fun q=>clA hP11 r1 q) (r2.ne S10.d) (r2.ne S10.t) r1 (fun _=>AO.noConfusion) (fun _ _=>AO.noConfusion)
end
section
variable {d:Wd} {c:Cx} {σ:St}
noncomputable abbrev Sett:=List (Int×(Int×(Bool×Bool)))
noncomputable def stV (v:Int×(Bool×Bool)):V:=.lst [.int v.1,.lst [.bool v.2.1,.bool v.2.2]]
noncomputable def stL (st:Sett):List (Int×V):=st.map fun p=>(p.1,stV p.2)
noncomputable def sgn (x y:Int):Int:=(if x > y then 1 else 0) - if x < y then 1 else 0
noncomputable def stepS (b:Bd) (st:Sett) (w:Int):List (Key×(Int×Bool))->Bool×Bool->Option (Bool×Bool)
 | [],f=>some f
 | (k,(o,ow))::r,f=>match look o st with
  | none=>none
  | some v=>if ow=mineM b k/\sgn v.1 w=(if mineM b k=true then -1 else 1) then stepS b st w r (if mineM b k=true then (f.1 || !v.2.2,f.2) else (f.1,f.2 || !v.2.1)) else none
theorem stepS_cons {b:Bd} {st:Sett} {w:Int} {k:Key} {o:Int} {ow:Bool} {r:List (Key×(Int×Bool))} {f f':Bool×Bool} (h:stepS b st w ((k,(o,ow))::r) f=some f') :
  ∃ v,look o st=some v/\ow=mineM b k/\sgn v.1 w=(if mineM b k=true then -1 else 1)/\stepS b st w r (if mineM b k=true then (f.1 || !v.2.2,f.2) else (f.1,f.2 || !v.2.1))=some f':=by
 unfold stepS at h
 cases hv:look o st with
 | none=>rw[hv] at h;cases h
 | some v =>
  rw[hv] at h
  have h':(if ow=mineM b k/\sgn v.1 w=(if mineM b k=true then -1 else 1) then stepS b st w r (if mineM b k=true then (f.1 || !v.2.2,f.2) else (f.1,f.2 || !v.2.1)) else none)=some f':=h
  by_cases c:ow=mineM b k/\sgn v.1 w=(if mineM b k=true then -1 else 1)
  ·rw[if_pos c] at h';exact⟨v,rfl,c.1,c.2,h'⟩
  ·rw[if_neg c] at h';cases h'
noncomputable def okS (w:Int) (f:Bool×Bool):Bool:=(decide (sgn w 0=1)&&(f == (true,false)))||(decide (sgn w 0 = -1)&&(f == (false,true)))||(decide (sgn w 0=0)&&(f == (false,false)))
theorem look_stL {st:Sett} {o:Int} {v:Int×(Bool×Bool)} (h:look o st=some v):look o (stL st)=some (stV v):=by
 induction st with
 | nil=>cases h
 | cons p r ih =>
  unfold stL
  rw[List.map_cons]
  unfold look at h ⊢
  split at h
  ·rename_i q;rw[if_pos q];cases h;rfl
  ·rename_i q;rw[if_neg q];exact ih h
noncomputable def fd248 (P:Params):FuncData:=fnData (o248 P)
theorem ok248 (d:Wd):FnOk d 248 (fd248 d.w.params) (kidS S19) [ofS "mask",ofS "board",ofS "moves",ofS "settled"]:=⟨⟨o248 d.w.params,by kernel_rfl!,by kernel_rfl!⟩,by kernel_rfl!,by kernel_rfl!,by kernel_rfl!,fun L=>by kernel_rfl!,by kernel_rfl!,by kernel_rfl!,by kernel_rfl!,by kernel_rfl!,by kernel_rfl!,by kernel_rfl!⟩
theorem settled_spec {b:Bd} {low:Key} (H:BdG b low) {q:Nat} {MV SD:Addr} {mv:List (Int×Bool)} {st:Sett} {ep:Nat} {w:Int} {f:Bool×Bool} {K:V->St->Prop} (R:Rm c.A 14) (hM:σ.hp MV=some (.list (mv.map mvV))) (hS:σ.hp SD=some (.dictI (stL st) ep)) (hz:st.length<=100) (hz2:mv.length<=100)
  (hw:worthF b (posK b.keys q) 10 []=some w) (hlen:mv.length=(posK b.keys q).length) (hs:stepS b st w ((posK b.keys q).zip mv) (false,false)=some f) (hok:okS w f=true) (hq:(q:Int) ∉ st.map (·.1))
  (h:∀ hp' ep',(∀ a ao,a≠SD->σ.hp a=some ao->hp' a=some ao)->hp' SD=some (.dictI (stL (st++[((q:Int),(w,f))])) ep')->K (.bool true) ⟨σ.loc,hp'⟩):CallV d c (.ref 248) [.int (q:Int),bV b,.obj MV,.obj SD] [] σ K:=by
 refine CallV_ok (bs:=[(ofS "mask",.int (q:Int)),(ofS "board",bV b),(ofS "moves",.obj MV),(ofS "settled",.obj SD)]) (ok248 d) R.room (bind4 fun u v w q=>rfl) (fun L=>?_)
 have R':Rm (cxOf c.A (fd248 d.w.params) L 248).A 13:=R.in
 obtain hk4:=H.len
 obtain hp4:=posK_le b.keys q
 obtain hs4:=H.s4
 obtain hkk:∀ k∈b.keys,k.length<=1000:=fun k hk=>(H.ok.kk k hk).2
 obtain hpk:∀ k∈posK b.keys q,k.length<=1000:=posK_mem hk4 hkk
 obtain hm2k:∀ one∈b.m2,one.length<=1000:=fun k hk=>(H.ok.k2 k hk).2
 refine WB_cons ?_
 walk_at "w"
 refine WS_Cmp2 true (l:=[(ofS "board",bV b),(ofS "mask",.int (q:Int))]) (by kernel_rfl!) R'.handled ?_
 walk_at "w"
 refine call_range ?_
 refine ⟨_,_,iter_rng (n:=4) (by decide),by simp[rInts],⟨by walk_at "l",by walk_at "l",trivial⟩,fun C0=>?_⟩
 refine comp_pure (f:=fun i:Nat=>V.int (i:Int)) (e:=fun k:Nat=>kV (b.keys.getD k [])) (p:=bitN q) (fun v=>[(ofS "board",bV b),(ofS "mask",.int (q:Int)),(ofS "k",v)]) (by kernel_rfl!) (fun v=>by walk_at "p") (fun u v=>by walk_at "p") trivial (List.range 4) (fun k hk4'=>?_) (fun k hk4' _=>?_) _ ?_
 ·refine (?_:WT d _ _ _ _)
  obtain hk4:=List.mem_range.mp hk4'
  walk_at "w"
  refine bin_pow2 (Y55 hk4) ?_
  refine bin_div (Int.ne_of_gt (Int.pow_pos (by omega))) (by_pylong (Y54 hk4)) ?_
  walk_at "w"
  refine bin_mod (by decide) ?_
  walk_at "w"
  rw[bit_eq]
  exact⟨rfl,rfl⟩
 ·walk_at "w"
  refine sub_lst (v:=ksV b.keys) (by decide) (by decide) rfl ?_
  walk_at "w"
  exact sub_lst (Int.natCast_nonneg _) (by obtain this:=List.mem_range.mp hk4';exact Y53 this) (getK_row hk4 (List.mem_range.mp hk4')) ⟨rfl,rfl⟩
 obtain e1:((List.range 4).filter (bitN q)).map (fun k=>kV (b.keys.getD k []))=(posK b.keys q).map kV:=by delta posK;simp only[List.map_map];rfl
 simp only[e1,List.nil_append]
 refine (?_:Asg d _ _ _ _ _)
 generalize hpos:posK b.keys q=pos at *
 walk_at "w"
 refine W_Tuple ?_
 walk_at "w"
 refine ⟨by simp,?_⟩
 walk_at "w"
 refine worth_spec (pos:=pos) (root:=[]) (Y105 hs4) hm2k hpk (Y105 hp4) 10 (R'.le (by decide)) hw ?_
 walk_at "w"
 refine W_ListM ?_
 walk_at "w"
 refine ⟨by simp,fun f0 hf0=>?_⟩
 obtain nMf:MV≠f0:=fun z=>clA hf0 hM z
 obtain nSf:SD≠f0:=fun z=>clA hf0 hS z
 walk_at "w"
 refine WS_For (fun _ _ q=>q) R'.handled ?_
 walk_at "w"
 refine call_len (vs:=pos.map kV) rfl (by simp;exact Y105 hp4) ?_
 simp only[List.length_map]
 walk_at "w"
 refine call_range ?_
 refine ⟨_,_,iter_rng (n:=pos.length) (Y105 hp4),?_⟩
 simp only[show rInts pos.length=(List.range' 0 pos.length).map (fun i:Nat=>V.int (i:Int)) from by delta rInts;simp only[List.range_eq_range']]
 refine (fun G:(∀ (n m:Nat) (g:Bool×Bool) (hp':Addr->Option AO) (l:List (Str×V)),m+n=pos.length->hp'=updH σ.hp f0 (.list [.bool g.1,.bool g.2])->stepS b st w ((pos.drop m).zip (mv.drop m)) g=some f->LocIn (lk l) [(ofS "mask",.int (q:Int)),(ofS "board",bV b),(ofS "moves",.obj MV),(ofS "settled",.obj SD),(ofS "position",ksV pos),(ofS "worth",.int w),(ofS "first",.obj f0)] ->
   ForRun d _ _ _ _ _ _ ((List.range' m n).map fun i:Nat=>V.int (i:Int)) ⟨lk l,hp'⟩)=>G pos.length 0 (false,false) _ _ Y32 rfl hs ⟨by walk_at "l",by walk_at "l",by walk_at "l",by walk_at "l",by walk_at "l",by walk_at "l",by walk_at "l",trivial⟩) ?_
 intro n
 induction n with
 | zero =>
  intro m g hp' l hm he e hl
  subst he
  obtain em:m=pos.length:=Y131 hm
  rw[em,List.drop_length] at e
  cases e
  refine (fun G:WB d _ _ ⟨lk [(ofS "mask",.int (q:Int)),(ofS "board",bV b),(ofS "moves",.obj MV),(ofS "settled",.obj SD),(ofS "position",ksV pos),(ofS "worth",.int w),(ofS "first",.obj f0)],_⟩ _=>Ev.sub (le_loc hl) G) ?_
  refine Ev.freeze (a:=f0) updH_at (FrzL.same (FrzL.same (FrzL.same (FrzL.same (FrzL.same (FrzL.same (FrzL.frz FrzL.nil))))))) ?_
  rw[dropH_upd hf0]
  walk_at "w"
  refine W_List ?_
  walk_at "w"
  refine ⟨by simp,?_⟩
  walk_at "w"
  obtain ek:put (q:Int) (V.lst [.int w,.lst [.bool f.1,.bool f.2]]) (stL st)=stL (st++[((q:Int),(w,f))]):=by
   rw[put_new (by delta stL;simp only[List.map_map];exact hq)]
   delta stL
   simp only[List.map_append];rfl
  refine set_dictI hS (by delta stL;simp;exact Y80 hz) fun ep'=>?_
  simp only[ek]
  walk_at "w"
  refine three_way_cmp_spec (R'.le (by decide)) ?_
  refine (?_:AsgAll d _ _ (.int (sgn w 0)) _ _)
  obtain hany:([PyData.list [.int 1,.list [.bool true,.bool false]],.list [.int (-1),.list [.bool false,.bool true]],.list [.int 0,.list [.bool false,.bool false]]].any fun y=>PyData.eqv y (.list [.int (sgn w 0),.list [.bool f.1,.bool f.2]]))=true:=by
   unfold okS at hok
   simp only[Bool.or_eq_true,Bool.and_eq_true,decide_eq_true_iff,beq_iff_eq] at hok
   rcases hok with (⟨e1,e2⟩ | ⟨e1,e2⟩) | ⟨e1,e2⟩<;>rw[e1,e2]<;>decide
  walk_at "w"
  refine call_isbool_int ?_
  walk_at "w"
  try simp only[Bool.not_false,if_true]
  walk_at "w"
  refine W_List ?_
  walk_at "w"
  refine ⟨by simp,?_⟩
  walk_at "w"
  refine W_List ?_
  walk_at "w"
  refine W_List ?_
  walk_at "w"
  refine W_List ?_
  walk_at "w"
  refine ⟨by simp,?_⟩
  walk_at "w"
  refine ⟨by simp,?_⟩
  walk_at "w"
  refine W_List ?_
  walk_at "w"
  refine W_List ?_
  walk_at "w"
  refine ⟨by simp,?_⟩
  walk_at "w"
  refine ⟨by simp,?_⟩
  walk_at "w"
  refine W_List ?_
  walk_at "w"
  refine W_List ?_
  walk_at "w"
  refine ⟨by simp,?_⟩
  walk_at "w"
  refine ⟨by simp,?_⟩
  walk_at "w"
  refine ⟨by simp,?_⟩
  refine cmp_inD (p:=.list [.int (sgn w 0),.list [.bool f.1,.bool f.2]]) (qs:=[PyData.list [.int 1,.list [.bool true,.bool false]],.list [.int (-1),.list [.bool false,.bool true]],.list [.int 0,.list [.bool false,.bool false]]]) rfl rfl (by simp[PyData.depth,PyData.depthAll]) (R'.le (by decide)) ?_
  simp only[hany]
  walk_at "w"
  exact h _ ep' (fun a ao ha e=>(updH_ne ha).trans e) updH_at
 | succ n ih =>
  intro m g hp' l hm he e hl
  subst he
  have hlt:m < pos.length:=Y212 hm
  obtain⟨key,hkey⟩:∃ key,pos[m]? = some key:=⟨_,List.getElem?_eq_getElem hlt⟩
  obtain⟨⟨o,ow⟩,hmv⟩:∃ z,mv[m]? = some z:=⟨_,List.getElem?_eq_getElem (Y222 hlen hlt)⟩
  have hkm:key∈pos:=List.mem_of_getElem? hkey
  obtain d1:pos.drop m=key::pos.drop (m+1):=by
   simp only[List.drop_eq_getElem_cons hlt]
   simp only[List.getElem?_eq_getElem hlt] at hkey;cases hkey;rfl
  obtain d2:mv.drop m=(o,ow)::mv.drop (m+1):=by
   obtain hlt:m < mv.length:=Y222 hlen hlt
   rw[List.drop_eq_getElem_cons hlt]
   rw[List.getElem?_eq_getElem hlt] at hmv
   rw[Option.some.inj hmv]
  rw[d1,d2,List.zip_cons_cons] at e
  refine elEAAA (stepS_cons e) fun v hv c1 c2 e=>?_
  rw[c1] at hmv d2
  clear c1
  have hM':updH σ.hp f0 (.list [.bool g.1,.bool g.2]) MV=_:=(updH_ne nMf).trans hM
  have hS':updH σ.hp f0 (.list [.bool g.1,.bool g.2]) SD=_:=(updH_ne nSf).trans hS
  refine (fun G:ForRun d _ _ _ _ _ _ _ ⟨lk [(ofS "mask",.int (q:Int)),(ofS "board",bV b),(ofS "moves",.obj MV),(ofS "settled",.obj SD),(ofS "position",ksV pos),(ofS "worth",.int w),(ofS "first",.obj f0)],_⟩=>ForRun.sub (le_loc hl) G) ?_
  clear hl l
  show Asg d _ _ _ _ _
  cases hmm:mineM b key with
  | true =>
   rw[hmm] at hmv d2 c2 e
   simp only[if_true] at c2 e
   walk_at "w"
   refine sub_list hM' (Int.natCast_nonneg _) (Y202 hp4 hlt) (by rw[Int.toNat_natCast,List.getElem?_map,hmv];rfl) ?_
   walk_at "w"
   refine A_two (side:=fun _=>True) (by rfl) (unpack_it (xs:=[.int o,.bool true]) R'.handled iter_lst notIter_lst ⟨rfl,?_⟩)
   walk_at "w"
   refine sub_lst (v:=kV key) (Int.natCast_nonneg _) (Y202 hp4 hlt) (by rw[Int.toNat_natCast,List.getElem?_map,hkey];rfl) ?_
   walk_at "w"
   refine law_mine_spec (R'.le (by decide)) (Y105 hs4) (hpk key hkm) hm2k ?_
   rw[hmm]
   walk_at "w"
   try simp only[if_true]
   walk_at "w"
   refine cmp_neD (p:=.bool true) (q:=.bool true) rfl rfl (Nat.zero_le _) (R'.le (by decide)) ?_
   rw[show (!PyData.eqv (.bool true) (.bool true))=false from rfl]
   walk_at "w"
   try simp only[Bool.false_eq_true,if_false]
   walk_at "w"
   refine sub_dictI hS' (look_stL hv) ?_
   walk_at "w"
   refine sub_lst (v:=.int v.1) (by decide) (by decide) rfl ?_
   walk_at "w"
   refine three_way_cmp_spec (R'.le (by decide)) ?_
   walk_at "w"
   refine W_List ?_
   walk_at "w"
   refine ⟨by simp,?_⟩
   walk_at "w"
   refine sub_lst (v:=.int (-1)) (by decide) (by decide) rfl ?_
   walk_at "w"
   have c3:((if v.1 > w then (1:Int) else 0) - if v.1 < w then 1 else 0)=(-1):=c2
   rw[c3]
   walk_at "w"
   try simp only[ne_eq,not_true_eq_false,decide_false,Bool.false_eq_true,if_false]
   walk_at "w"
   try simp only[Bool.false_eq_true,if_false]
   walk_at "w"
   refine sub_dictI hS' (look_stL hv) ?_
   walk_at "w"
   refine sub_lst (v:=.lst [.bool v.2.1,.bool v.2.2]) (by decide) (by decide) rfl ?_
   walk_at "w"
   refine sub_lst (v:=.bool v.2.2) (by decide) (by decide) rfl ?_
   walk_at "w"
   cases hbb:v.2.2 with
   | false =>
    try simp only[Bool.not_false,if_true]
    walk_at "w"
    refine set_list updH_at (by decide) (by simp) (by simp) ?_
    walk_at "w"
    exact⟨trivial,ih (m+1) (true,g.2) _ _ (Y207 hm) upd_upd (by rw[hbb] at e;simpa using e) ⟨by walk_at "l",by walk_at "l",by walk_at "l",by walk_at "l",by walk_at "l",by walk_at "l",by walk_at "l",trivial⟩⟩
   | true =>
    try simp only[Bool.not_true,Bool.false_eq_true,if_false]
    walk_at "w"
    exact⟨trivial,ih (m+1) g _ _ (Y207 hm) rfl (by rw[hbb] at e;simpa using e) ⟨by walk_at "l",by walk_at "l",by walk_at "l",by walk_at "l",by walk_at "l",by walk_at "l",by walk_at "l",trivial⟩⟩
  | false =>
   rw[hmm] at hmv d2 c2 e
   simp only[Bool.false_eq_true,if_false] at c2 e
   walk_at "w"
   refine sub_list hM' (Int.natCast_nonneg _) (Y202 hp4 hlt) (by rw[Int.toNat_natCast,List.getElem?_map,hmv];rfl) ?_
   walk_at "w"
   refine A_two (side:=fun _=>True) (by rfl) (unpack_it (xs:=[.int o,.bool false]) R'.handled iter_lst notIter_lst ⟨rfl,?_⟩)
   walk_at "w"
   refine sub_lst (v:=kV key) (Int.natCast_nonneg _) (Y202 hp4 hlt) (by rw[Int.toNat_natCast,List.getElem?_map,hkey];rfl) ?_
   walk_at "w"
   refine law_mine_spec (R'.le (by decide)) (Y105 hs4) (hpk key hkm) hm2k ?_
   rw[hmm]
   walk_at "w"
   try simp only[Bool.false_eq_true,if_false]
   walk_at "w"
   refine cmp_neD (p:=.bool false) (q:=.bool false) rfl rfl (Nat.zero_le _) (R'.le (by decide)) ?_
   rw[show (!PyData.eqv (.bool false) (.bool false))=false from rfl]
   walk_at "w"
   try simp only[Bool.false_eq_true,if_false]
   walk_at "w"
   refine sub_dictI hS' (look_stL hv) ?_
   walk_at "w"
   refine sub_lst (v:=.int v.1) (by decide) (by decide) rfl ?_
   walk_at "w"
   refine three_way_cmp_spec (R'.le (by decide)) ?_
   walk_at "w"
   refine W_List ?_
   walk_at "w"
   refine ⟨by simp,?_⟩
   walk_at "w"
   refine sub_lst (v:=.int 1) (by decide) (by decide) rfl ?_
   walk_at "w"
   have c3:((if v.1 > w then (1:Int) else 0) - if v.1 < w then 1 else 0)=1:=c2
   rw[c3]
   walk_at "w"
   try simp only[ne_eq,not_true_eq_false,decide_false,Bool.false_eq_true,if_false]
   walk_at "w"
   try simp only[Bool.false_eq_true,if_false]
   walk_at "w"
   refine sub_dictI hS' (look_stL hv) ?_
   walk_at "w"
   refine sub_lst (v:=.lst [.bool v.2.1,.bool v.2.2]) (by decide) (by decide) rfl ?_
   walk_at "w"
   refine sub_lst (v:=.bool v.2.1) (by decide) (by decide) rfl ?_
   walk_at "w"
   cases hbb:v.2.1 with
   | false =>
    try simp only[Bool.not_false,if_true]
    walk_at "w"
    refine set_list updH_at (by decide) (by simp) (by simp) ?_
    walk_at "w"
    exact⟨trivial,ih (m+1) (g.1,true) _ _ (Y207 hm) upd_upd (by rw[hbb] at e;simpa using e) ⟨by walk_at "l",by walk_at "l",by walk_at "l",by walk_at "l",by walk_at "l",by walk_at "l",by walk_at "l",trivial⟩⟩
   | true =>
    try simp only[Bool.not_true,Bool.false_eq_true,if_false]
    walk_at "w"
    exact⟨trivial,ih (m+1) g _ _ (Y207 hm) rfl (by rw[hbb] at e;simpa using e) ⟨by walk_at "l",by walk_at "l",by walk_at "l",by walk_at "l",by walk_at "l",by walk_at "l",by walk_at "l",trivial⟩⟩
end
section
variable {d:Wd} {c:Cx} {σ:St}
theorem SrtR.mono' {hp hp':Addr->Option AO} {x:Addr} {S:Srt} {t:SD} (H:SrtR hp x S t) (k:∀ b ao,t.foot x b->hp b=some ao->hp' b=some ao):SrtR hp' x S t:=by
 refine elEEAA H.dict fun kvs ep d1 d2 d3=>?_
 refine ⟨k _ _ (.inl rfl) H.obj,⟨kvs,ep,k _ _ (.inr (.inl rfl)) d1,d2,d3⟩,H.none_,fun n a s e=>?_,H.inj,H.rdyN,fun l e=>?_⟩
 ·refine elEEAA (H.node n a s e) fun kk sc q1 q2 q3=>?_
  exact⟨kk,sc,q1,k _ _ (foot_n e).1 q2,k _ _ (foot_n e).2 q3⟩
 ·refine elEAA (H.rdyS l e) fun R r1 r2 r3=>?_
  exact⟨R,r1,k _ _ (foot_R r1) r2,r3⟩
structure LawS (hpF hp:Addr->Option AO) (x:Addr) (S:Srt) (t:SD) (SD Dd:Addr) (st:Sett) (nd:Nat):Prop where
 old:∀ b ao,hpF b=some ao->hp b=some ao
 ftF:∀ b,t.foot x b->hpF b=none
 fS:hpF SD=none
 fD:hpF Dd=none
 srt:SrtR hp x S t
 se:∃ ep,hp SD=some (.dictI (stL st) ep)
 de:hp Dd=some (noneL nd)
 nS:¬ t.foot x SD
 nD:¬ t.foot x Dd
theorem LawS.ne {hpF hp:Addr->Option AO} {x:Addr} {S:Srt} {t:SD} {SD Dd:Addr} {st:Sett} {nd:Nat} (H:LawS hpF hp x S t SD Dd st nd):SD≠Dd:=fun q=>by
 refine elE H.se fun ep e=>?_
 rw[q,H.de] at e;cases e
theorem LawS.sorter {hpF hp hp':Addr->Option AO} {x:Addr} {S S':Srt} {t t':SD} {SD Dd:Addr} {st:Sett} {nd:Nat} (H:LawS hpF hp x S t SD Dd st nd) (s:SrtR hp' x S' t') (k:KeepS x t t' hp hp'):LawS hpF hp' x S' t' SD Dd st nd:=by
 refine elE H.se fun ep e=>?_
 refine ⟨fun b ao eb=>k.old b ao (H.old b ao eb) fun q=>?_,fun b q=>?_,H.fS,H.fD,s,⟨ep,k.old _ _ e H.nS⟩,k.old _ _ H.de H.nD,fun q=>?_,fun q=>?_⟩
 ·rw[H.ftF b q] at eb;cases eb
 ·rcases k.new b q with z | z
  ·exact H.ftF b z
  ·cases eb:hpF b with
   | none=>rfl
   | some ao=>rw[H.old b ao eb] at z;cases z
 ·rcases k.new _ q with z | z
  ·exact H.nS z
  ·rw[e] at z;cases z
 ·rcases k.new _ q with z | z
  ·exact H.nD z
  ·rw[H.de] at z;cases z
theorem LawS.deed {hpF hp:Addr->Option AO} {x:Addr} {S:Srt} {t:SD} {SD Dd:Addr} {st:Sett} {nd m:Nat} (H:LawS hpF hp x S t SD Dd st nd):LawS hpF (updH hp Dd (noneL (nd+m))) x S t SD Dd st (nd+m):=by
 refine elE H.se fun ep e=>?_
 refine ⟨fun b ao eb=>(updH_ne fun q=>?_).trans (H.old b ao eb),H.ftF,H.fS,H.fD,H.srt.mono' fun b ao f eb=>(updH_ne fun q=>H.nD (by rw[<- q];exact f)).trans eb,⟨ep,(updH_ne H.ne).trans e⟩,updH_at,H.nS,H.nD⟩
 rw[q,H.fD] at eb;cases eb
theorem LawS.sett {hpF hp hp':Addr->Option AO} {x:Addr} {S:Srt} {t:SD} {SD Dd:Addr} {st st':Sett} {nd ep':Nat} (H:LawS hpF hp x S t SD Dd st nd) (k:∀ a ao,a≠SD->hp a=some ao->hp' a=some ao) (e':hp' SD=some (.dictI (stL st') ep')):LawS hpF hp' x S t SD Dd st' nd:=by
 refine ⟨fun b ao eb=>k _ _ (fun q=>?_) (H.old b ao eb),H.ftF,H.fS,H.fD,H.srt.mono' fun b ao f eb=>k _ _ (fun q=>H.nS (by rw[<- q];exact f)) eb,⟨ep',e'⟩,k _ _ (Ne.symm H.ne) H.de,H.nS,H.nD⟩
 rw[q,H.fS] at eb;cases eb
end
section
variable {d:Wd} {c:Cx} {σ:St}
noncomputable def bndC (S:Srt) (n:Nat):Bool:=decide (S.nds.length<=n)&&S.nds.all fun p=>decide (p.2.2.length<=n)
theorem look_all {α:Type} {q:Int×α->Bool} {m:Int} {v:α}:∀ {l:List (Int×α)},l.all q=true->look m l=some v->∃ k,q (k,v)=true
 | [],_,e=>nomatch e
 | kv::r,h,e=>by
  rw[List.all_cons,Bool.and_eq_true] at h
  unfold look at e
  split at e
  ·cases e;exact⟨kv.1,h.1⟩
  ·exact look_all h.2 e
theorem bndC_ok {S:Srt} {n:Nat} (h:bndC S n=true):Bnd S n:=by
 unfold bndC at h
 rw[Bool.and_eq_true,decide_eq_true_iff] at h
 refine ⟨h.1,fun m v e=>?_⟩
 refine elE (look_all h.2 e) fun k hk=>?_
 exact decide_eq_true_iff.mp hk
noncomputable def optsF (keys:List Key) (pos:List Key):List Int:=pos.map fun key=>maskK keys (leftK pos key)
noncomputable def addOk (S:Srt) (m:Int) (ps:List Int):Option Srt:=if bndC S 100=true/\S.rdy.isNone=true then some (addF S m ps) else none
noncomputable def addsF (keys:List Key):Vis->Srt->Option Srt
 | [],S=>some S
 | v::r,S=>if v.2.length<=100 then (addOk S v.1 ((optsF keys v.2).take 1)).bind fun S1=>(addOk S1 v.1 ((optsF keys v.2).drop 1)).bind fun S2=>addsF keys r S2 else none
theorem addOk_some {S S':Srt} {m:Int} {ps:List Int} (h:addOk S m ps=some S'):Bnd S 100/\S.rdy=none/\S'=addF S m ps:=by
 unfold addOk at h
 split at h
 ·rename_i c
  cases h
  exact⟨bndC_ok c.1,Option.isNone_iff_eq_none.mp c.2,rfl⟩
 ·cases h
theorem addsF_cons {keys:List Key} {v:Int×List Key} {r:Vis} {S S':Srt} (h:addsF keys (v::r) S=some S'):v.2.length<=100/\∃ S1 S2,addOk S v.1 ((optsF keys v.2).take 1)=some S1/\addOk S1 v.1 ((optsF keys v.2).drop 1)=some S2/\addsF keys r S2=some S':=by
 unfold addsF at h
 by_cases c:v.2.length<=100
 ·rw[if_pos c] at h
  refine elEA (Option.bind_eq_some_iff.mp h) fun S1 e1 h=>?_
  refine elEA (Option.bind_eq_some_iff.mp h) fun S2 e2 h=>?_
  exact⟨c,S1,S2,e1,e2,h⟩
 ·rw[if_neg c] at h;cases h
theorem pick_to1 {α:Type} (vs:List α):pick vs none (some 1)=vs.take 1:=by
 unfold pick
 simp only[Option.elim_some,Option.elim_none]
 rw[show (1:Int)=((1:Nat):Int) from rfl,clipAt_nat,List.drop_zero]
 cases vs with
 | nil=>rfl
 | cons a l=>rw[List.length_cons,Nat.min_eq_left Y38]
theorem pick_from1 {α:Type} (vs:List α):pick vs (some 1) none=vs.drop 1:=by
 cases vs with
 | nil=>rfl
 | cons a l=>exact pick_from (a::l) 1 (by simp)
noncomputable def prepOk (S:Srt):Option Srt:=if S.rdy.isNone=true/\(S.nds.map (·.1)).Nodup/\S.nds.length<=300/\(fcAll S.nds 2000 (S.nds.map (·.1)) []).isSome=true then some (prepF S) else none
noncomputable def roundS (keys:List Key) (size:Nat) (S:Srt):Option (List Int×Srt):=match S.rdy with
 | none=>none
 | some l=>if (decide (S.fi < S.po) || !l.isEmpty)=true/\l.length<=16/\(l.all fun m=>(look m S.nds).isSome)=true/\l.Perm (clN keys 16 size)/\(clN keys 16 size).Pairwise (· <= ·)/\(readyF (readyF S l) []).fi < (readyF (readyF S l) []).po/\bndC (readyF (readyF S l) []) 25=true
  then (doneF l (readyF (readyF S l) [])).map fun S'=>(l,S') else none
noncomputable def settQ (b:Bd) (vis:Vis) (m:Int) (st:Sett):Option Sett:=match look m vis with
 | none=>none
 | some pos=>if (m.toNat:Int)=m/\pos=posK b.keys m.toNat/\m ∉ st.map (·.1)/\st.length<=90 then (worthF b pos 10 []).bind fun w=>(stepS b st w (pos.zip (mvF b pos)) (false,false)).bind fun f=>if okS w f=true then some (st++[(m,(w,f))]) else none else none
noncomputable def settG (b:Bd) (vis:Vis):List Int->Sett->Option Sett
 | [],st=>some st
 | m::r,st=>(settQ b vis m st).bind fun st'=>settG b vis r st'
noncomputable def roundsF (b:Bd) (vis:Vis):Nat->Nat->Srt->Sett->Bool
 | 0,_,S,_=>match S.rdy with
  | some l=>decide (l.length<=100) && !(decide (S.fi < S.po) || !l.isEmpty)
  | none=>false
 | n+1,m,S,st=>match roundS b.keys m S with
  | none=>false
  | some gS=>match settG b vis gS.1 st with
   | none=>false
   | some st'=>roundsF b vis n (m+1) gS.2 st'
noncomputable def chkL (b:Bd):Bool:=match addsF b.keys (ordF b.keys 5 b.keys []) srt0 with
 | none=>false
 | some S=>match prepOk S with
  | none=>false
  | some S'=>decide ((ordF b.keys 5 b.keys []).length<=100)&&roundsF b (ordF b.keys 5 b.keys []) 5 0 S' []
end
section
variable {d:Wd} {c:Cx} {σ:St}
noncomputable def fd253 (P:Params):FuncData:=fnData (o253 P)
structure LawFix (b:Bd) (hpF:Addr->Option AO) (B C:Addr) (Ac:Nat->Addr) (A:Int->Addr) (vis:Vis):Prop where
 bk:∃ ep,hpF B=some (.dictI (bkV A vis) ep)
 ls:∀ v∈vis,hpF (A v.1)=some (.list ((mvF b v.2).map mvV))
 co:hpF C=some (.list ((List.range 5).map fun i=>V.obj (Ac i)))
 ci:∀ i,i < 5->hpF (Ac i)=some (.list ((clN b.keys 16 i).map V.int))
noncomputable abbrev lawB (n:Nat):List Stmt:=(kidS S20).drop n
noncomputable abbrev lawL (b:Bd) (B C x SD Dd:Addr):List (Str×V):=[(ofS "board",bV b),(ofS "book",.obj B),(ofS "closed",.obj C),(ofS "sorter",.obj x),(ofS "settled",.obj SD),(ofS "deeds",.obj Dd)]
theorem SrtR.foot_some {hp:Addr->Option AO} {x b:Addr} {S:Srt} {t:SD} (H:SrtR hp x S t) (h:t.foot x b):hp b≠none:=by
 rcases h with rfl | rfl | h | ⟨n,a,s,e,h⟩
 ·rw[H.obj];exact fun q=>nomatch q
 ·refine elEEA H.dict fun kvs ep e uu=>?_
  rw[e];exact fun q=>nomatch q
 ·cases e:S.rdy with
  | none=>rw[H.rdyN e] at h;cases h
  | some l =>
   refine elEAA (H.rdyS l e) fun R r1 r2 uu=>?_
   rw[r1] at h;cases h
   rw[r2];exact fun q=>nomatch q
 ·refine elEEAA (H.node n a s e) fun k sc uu q2 q3=>?_
  rcases h with rfl | rfl
  ·rw[q2];exact fun q=>nomatch q
  ·rw[q3];exact fun q=>nomatch q
theorem none_old {h1 h2:Addr->Option AO} {a:Addr} (k:∀ b ao,h1 b=some ao->h2 b=some ao) (e:h2 a=none):h1 a=none:=by
 cases q:h1 a with
 | none=>rfl
 | some ao=>rw[k a ao q] at e;cases e
theorem LawS.init {hp3 hp4:Addr->Option AO} {t:SD} {x SD Dd:Addr} {epS:Nat} (hs4:SrtR hp4 x srt0 t) (ho4:∀ b ao,hp3 b=some ao->hp4 b=some ao) (hf4:∀ b,t.foot x b->hp3 b=none) (fS:hp4 SD=none) (fD:updH hp4 SD (.dictI [] epS) Dd=none) :
  LawS hp3 (updH (updH hp4 SD (.dictI [] epS)) Dd (noneL 0)) x srt0 t SD Dd [] 0:=by
 refine elA (updH_none fD) fun nDS fD4=>?_
 have ne:∀ {b ao},hp4 b=some ao->updH (updH hp4 SD (.dictI [] epS)) Dd (noneL 0) b=some ao:=fun e=>(updH_ne fun q=>clZ fD4 e q).trans ((updH_ne fun q=>clZ fS e q).trans e)
 exact⟨fun b ao e=>ne (ho4 b ao e),hf4,none_old ho4 fS,none_old ho4 fD4,hs4.mono' fun b ao _ e=>ne e,⟨epS,(updH_ne (Ne.symm nDS)).trans updH_at⟩,updH_at,fun q=>hs4.foot_some q fS,fun q=>hs4.foot_some q fD4⟩
theorem mf_add:MF d.K 193 143 (Str.ofString "add"):=⟨by kernel_rfl!,by kernel_rfl!,by kernel_rfl!,by kernel_rfl!,by kernel_rfl!,by kernel_rfl!,by decide +kernel,by kernel_rfl!⟩
theorem mf_done:MF d.K 193 176 (Str.ofString "done"):=⟨by kernel_rfl!,by kernel_rfl!,by kernel_rfl!,by kernel_rfl!,by kernel_rfl!,by kernel_rfl!,by decide +kernel,by kernel_rfl!⟩
theorem law1 {A0:Around} {L:Addr} {b:Bd} {hp3 hp0:Addr->Option AO} {B C x Sd Dd:Addr} {Ac:Nat->Addr} {A:Int->Addr} {vis:Vis} {t:SD} {S1:Srt} {KT:Fl->St->Prop} (R':Rm (cxOf A0 (fd253 d.w.params) L 253).A 19)
  (Fx:LawFix b hp3 B C Ac A vis) (hnd:(vis.map (·.1)).Nodup) (hlen:vis.length<=100) (HS0:LawS hp3 hp0 x srt0 t Sd Dd [] 0) (eS1:addsF b.keys vis srt0=some S1)
  (hK:∀ hp' t' nd',nd'<=300->LawS hp3 hp' x S1 t' Sd Dd [] nd'->WB d (cxOf A0 (fd253 d.w.params) L 253) (lawB 7) ⟨lk (lawL b B C x Sd Dd),hp'⟩ KT) :
  WB d (cxOf A0 (fd253 d.w.params) L 253) (lawB 6) ⟨lk (lawL b B C x Sd Dd),hp0⟩ KT:=by
 have hv0:0+2 * vis.length<=300:=by rw[Nat.zero_add];exact Nat.le_trans (Nat.mul_le_mul_left 2 hlen) (by decide)
 refine elE Fx.bk fun epB eB=>?_
 refine WB_cons ?_
 walk_at "w"
 refine WS_For (fun _ _ q=>q) R'.handled ?_
 walk_at "w"
 refine ⟨_,_,iter_dictI (HS0.old _ _ eB),?_⟩
 rw[show (bkV A vis).map (fun kv=>V.int kv.1)=vis.map fun v=>V.int v.1 from by unfold bkV;rw[List.map_map];rfl]
 refine (fun G:(∀ (ks done:Vis) (S:Srt) (t':SD) (nd:Nat) (hp':Addr->Option AO) (l:List (Str×V)),vis=done++ks->nd+2 * ks.length<=300->LawS hp3 hp' x S t' Sd Dd [] nd->addsF b.keys ks S=some S1->LocIn (lk l) (lawL b B C x Sd Dd) ->
   ForRun d _ _ _ _ _ _ (ks.map fun v=>V.int v.1) ⟨lk l,hp'⟩)=>G vis [] srt0 t 0 _ _ rfl hv0 HS0 eS1 ⟨?l1,?l2,?l3,?l4,?l5,?l6,trivial⟩) ?_
 case l1=>walk_at "l"
 case l2=>walk_at "l"
 case l3=>walk_at "l"
 case l4=>walk_at "l"
 case l5=>walk_at "l"
 case l6=>walk_at "l"
 clear HS0
 intro ks
 induction ks with
 | cons v ks ih =>
  intro done S t' nd hp' l hvs hnn HS eA hl
  refine (fun G:ForRun d _ _ _ _ _ _ _ ⟨lk (lawL b B C x Sd Dd),hp'⟩=>ForRun.sub (le_loc hl) G) ?_
  clear hl l
  refine elAEEA (addsF_cons eA) fun hpl Sa Sb ea zz0=>?_
  refine elA zz0 fun eb eA=>?_
  refine elAA (addOk_some ea) fun ba ra hq2=>?_
  subst hq2
  refine elAA (addOk_some eb) fun bb rb hq2=>?_
  subst hq2
  clear ea eb
  have hv:v∈vis:=by rw[hvs];simp
  have hlk:look v.1 (bkV A vis)=some (.obj (A v.1)):=look_mem_nd (by rw[bkV_keys];exact hnd) (List.mem_map_of_mem (f:=fun v:Int×List Key=>(v.1,V.obj (A v.1))) hv)
  have hol:(optsF b.keys v.2).length<=100:=by unfold optsF;rw[List.length_map];exact hpl
  have hmv:=HS.old _ _ (Fx.ls v hv)
  show Asg d _ _ _ _ _
  walk_at "w"
  refine WS_Cmp2 true (l:=[]) (by kernel_rfl!) R'.handled ?_
  walk_at "w"
  refine sub_dictI (HS.old _ _ eB) hlk ?_
  refine ⟨_,_,iter_list hmv,by unfold mvF;rw[List.length_map,List.length_map];exact Nat.le_trans hpl (by decide),trivial,fun C0=>?_⟩
  refine comp_pure (f:=mvV) (e:=fun m=>V.int m.1) (p:=fun _=>true) (fun v=>[(ofS "move",v)]) (by kernel_rfl!) (fun v=>by walk_at "p") (fun u v=>by walk_at "p") hmv (mvF b v.2) (fun m _=>?_) (fun m _ _=>?_) _ ?_
  ·exact⟨rfl,rfl⟩
  ·walk_at "w"
   exact sub_lst (by decide) (by decide) rfl ⟨rfl,rfl⟩
  rw[List.nil_append,List.filter_eq_self.mpr fun _ _=>rfl]
  rw[show (mvF b v.2).map (fun m=>V.int m.1)=(optsF b.keys v.2).map V.int by unfold mvF optsF;rw[List.map_map,List.map_map];rfl]
  show Asg d _ _ _ _ _
  generalize optsF b.keys v.2=os at *
  walk_at "w"
  refine getM_list HS.de PySem.F.slot_list_extend PySem.F.type_list_extend ?_
  walk_at "w"
  refine W_List ?_
  walk_at "w"
  refine W_MethS2 ?_ (by kernel_rfl!) (by kernel_rfl!)
  walk_at "w"
  refine ⟨x,193,143,_,rfl,HS.srt.obj,by walk_at "m nolook",mf_add,?_⟩
  walk_at "w"
  refine WL_star ?_
  walk_at "w"
  refine sub_slice (by rw[List.length_map];exact Nat.le_trans hol (by decide)) ?_
  rw[pick_to1,<- List.map_take]
  refine ⟨_,rfl,by rw[List.length_map,List.length_take];exact Nat.le_trans (Nat.min_le_left ..) (by decide),?_⟩
  walk_at "w"
  rw[List.append_nil]
  refine add_spec (n:=v.1) (ps:=os.take 1) (R'.le (by decide)) HS.srt ra ba (by rw[List.length_take];exact Y41) fun hp7 t7 hs7 k7=>?_
  have HS7:=HS.sorter hs7 k7
  clear HS hs7 k7 hmv
  walk_at "w"
  refine W_MethS2 ?_ (by kernel_rfl!) (by kernel_rfl!)
  walk_at "w"
  refine ⟨x,193,143,_,rfl,HS7.srt.obj,by walk_at "m nolook",mf_add,?_⟩
  walk_at "w"
  refine WL_star ?_
  walk_at "w"
  refine sub_slice (by rw[List.length_map];exact Nat.le_trans hol (by decide)) ?_
  rw[pick_from1,<- List.map_drop]
  refine ⟨_,rfl,by rw[List.length_map,List.length_drop];exact Y79 hol,?_⟩
  walk_at "w"
  rw[List.append_nil]
  refine add_spec (n:=v.1) (ps:=os.drop 1) (R'.le (by decide)) HS7.srt rb bb (by rw[List.length_drop];exact Y78 hol) fun hp8 t8 hs8 k8=>?_
  have HS8:=HS7.sorter hs8 k8
  clear HS7 hs8 k8
  walk_at "w"
  refine ⟨by simp,?_⟩
  walk_at "w"
  refine call_extend HS8.de (ws:=List.replicate 2 V.none) rfl (by simp;exact Y136 hnn) (by simp) ?_
  rw[rep_add]
  have HS9:=HS8.deed (m:=2)
  walk_at "w"
  refine ⟨HS9.old _ _ eB,?_⟩
  refine ih (done++[v]) _ t8 (nd+2) _ _ (by rw[hvs];simp) (by rw[List.length_cons] at hnn;exact Y135 hnn) HS9 eA ?_
  exact⟨by walk_at "l",by walk_at "l",by walk_at "l",by walk_at "l",by walk_at "l",by walk_at "l",trivial⟩
 | nil =>
  intro done S t' nd hp' l hvs hnn HS eA hl
  cases eA
  refine (fun G:WB d _ _ ⟨lk (lawL b B C x Sd Dd),hp'⟩ _=>Ev.sub (le_loc hl) G) ?_
  clear hl l
  walk_at "m1"
  exact hK hp' t' nd (Y137 hnn) HS
end
section
variable {d:Wd} {c:Cx} {σ:St}
theorem intD (a:Int):(V.int a).data=some (.int a):=by simp only[V.data]
theorem eqv_intD (a b:Int):PyData.eqv (.int a) (.int b)=decide (a=b):=by
 unfold PyData.eqv
 rfl
theorem eqv_intsD (a b:List Int):PyData.eqv (.list (a.map .int)) (.list (b.map .int))=decide (a=b):=by rw[PyData.eqv];exact eqvAll_of eqv_intD a b
theorem depth_ints (a:List Int):(PyData.list (a.map .int)).depth<=1:=by
 unfold PyData.depth
 have:=depthAll_le (g:=PyData.int) (n:=0) (fun a=>Nat.le_refl _) a
 exact Y71 this
theorem cmp_neInts {l:List Int} {a:Addr} {m:List Int} {K:V->St->Prop} (R:Rm c.A 0) (hp:σ.hp a=some (.list (m.map V.int))) (h:K (.bool (!decide (l=m))) σ):Cmp d c .NotEq (.lst (l.map V.int)) (.obj a) σ K :=
 cmp_neS (p:=.list (l.map .int)) (q:=.list (m.map .int)) (by unfold dataOf;simp only[lstOf,datas_of intD,Option.map_some]) (by unfold dataOf;rw[lstOf_obj hp];simp only[datas_of intD,Option.map_some]) (Nat.le_trans (depth_ints l) Y6) R (by rw[eqv_intsD];exact h)
theorem roundS_some {keys:List Key} {size:Nat} {S:Srt} {gS:List Int×Srt} (h:roundS keys size S=some gS):∃ l S',gS=(l,S')/\S.rdy=some l/\(decide (S.fi < S.po) || !l.isEmpty)=true/\l.length<=16/\(∀ m∈l,(look m S.nds).isSome=true)/\l.Perm (clN keys 16 size)/\(clN keys 16 size).Pairwise (· <= ·)/\(readyF (readyF S l) []).fi < (readyF (readyF S l) []).po/\Bnd (readyF (readyF S l) []) 25/\doneF l (readyF (readyF S l) [])=some S':=by
 unfold roundS at h
 split at h
 ·cases h
 rename_i l e
 split at h
 ·rename_i q
  refine elAAAAAA q fun q1 q2 q3 q4 q5 q6 q7=>?_
  try clear q
  refine elEA (Option.map_eq_some_iff.mp h) fun S' e2 hq2=>?_
  subst hq2
  exact⟨l,S',rfl,e,q1,q2,fun m hm=>List.all_eq_true.mp q3 m hm,q4,q5,q6,bndC_ok q7,e2⟩
 ·cases h
theorem settQ_some {b:Bd} {vis:Vis} {m:Int} {st st':Sett} (h:settQ b vis m st=some st'):∃ (q:Nat) (w:Int) (f:Bool×Bool),m=(q:Int)/\look (q:Int) vis=some (posK b.keys q)/\(q:Int) ∉ st.map (·.1)/\st.length<=90/\worthF b (posK b.keys q) 10 []=some w/\stepS b st w ((posK b.keys q).zip (mvF b (posK b.keys q))) (false,false)=some f/\okS w f=true/\st'=st++[((q:Int),(w,f))]:=by
 unfold settQ at h
 split at h
 ·cases h
 rename_i pos e
 split at h
 ·rename_i q
  refine elAAA q fun q1 q2 q3 q4=>?_
  try clear q
  refine elEA (Option.bind_eq_some_iff.mp h) fun w e1 h=>?_
  refine elEA (Option.bind_eq_some_iff.mp h) fun f e2 h=>?_
  split at h
  ·rename_i q5
   cases h
   subst q2
   exact⟨m.toNat,w,f,q1.symm,by rw[q1];exact e,by rw[q1];exact q3,q4,e1,e2,q5,by rw[q1]⟩
  ·cases h
 ·cases h
noncomputable def forTgt:Stmt->Expr
 | .For t _ _ _ _=>t
 | _=>.Name (Str.ofString "") default
theorem law_in {A0:Around} {L:Addr} {b:Bd} {low:Key} {hp3:Addr->Option AO} {B C x Sd Dd:Addr} {Ac:Nat->Addr} {A:Int->Addr} {vis:Vis} {t:SD} {S:Srt} {size:Nat} {g:List Int} {st':Sett} {nd:Nat} {KT:Fl->St->Prop} (HB:BdG b low) (R':Rm (cxOf A0 (fd253 d.w.params) L 253).A 19)
  (Fx:LawFix b hp3 B C Ac A vis) (hnd:(vis.map (·.1)).Nodup)
  (hK:∀ hp' l',LawS hp3 hp' x S t Sd Dd st' nd->LocIn (lk l') (lawL b B C x Sd Dd++[(ofS "group",.tup (g.map V.int))])->KT .next ⟨lk l',hp'⟩) :
  ∀ (ms:List Int) (st:Sett) (hp':Addr->Option AO) (l:List (Str×V)),LawS hp3 hp' x S t Sd Dd st nd->settG b vis ms st=some st'->LocIn (lk l) (lawL b B C x Sd Dd++[(ofS "group",.tup (g.map V.int))]) ->
   ForRun d (cxOf A0 (fd253 d.w.params) L 253) (forTgt (nthS (kidS (nthS (kidS S20) 8)) 2)) (kidS (nthS (kidS (nthS (kidS S20) 8)) 2)) [] (fun _=>True) KT (ms.map V.int) ⟨lk l,hp'⟩:=by
 refine elE Fx.bk fun epB eB=>?_
 intro ms
 induction ms with
 | cons m ms ih =>
  intro st hp' l HS hG hl
  refine (fun G:ForRun d _ _ _ _ _ _ _ ⟨lk (lawL b B C x Sd Dd++[(ofS "group",.tup (g.map V.int))]),hp'⟩=>ForRun.sub (le_loc hl) G) ?_
  clear hl l
  refine elEA (Option.bind_eq_some_iff.mp (show (settQ b vis m st).bind (fun st'=>settG b vis ms st')=some st' from hG)) fun st1 hq hG=>?_
  refine elEEEAAAA (settQ_some hq) fun q w f hq3 q1 q2 q3 zz0=>?_
  refine elAAA zz0 fun q4 q5 q6 hq10=>?_
  subst hq3
  subst hq10
  have hv:((q:Int),posK b.keys q)∈vis:=look_in q1
  have hlk:look (q:Int) (bkV A vis)=some (.obj (A (q:Int))):=look_mem_nd (by rw[bkV_keys];exact hnd) (List.mem_map_of_mem (f:=fun v:Int×List Key=>(v.1,V.obj (A v.1))) hv)
  have hmv:=HS.old _ _ (Fx.ls _ hv)
  refine elE HS.se fun epS eS=>?_
  dsimp only [lawL,List.cons_append,List.nil_append]
  refine A_loc (x:=ofS "mask") (by kernel_rfl!) (by walk_at "p") ?_
  refine WB_cons ?_
  walk_at "w"
  refine sub_dictI (HS.old _ _ eB) hlk ?_
  walk_at "w"
  refine settled_spec HB (R'.le (by decide)) hmv eS (Nat.le_trans q3 (by decide)) (by unfold mvF;rw[List.length_map];exact Nat.le_trans (posK_le _ _) (by decide)) q4 (by unfold mvF;rw[List.length_map]) q5 q6 q2 fun hp7 ep7 k7 e7=>?_
  have HS7:=HS.sett k7 e7
  walk_at "w"
  try simp only[Bool.not_true,Bool.false_eq_true,if_false]
  walk_at "w"
  refine ⟨trivial,?_⟩
  refine ih _ hp7 _ HS7 hG ?_
  exact⟨by walk_at "l",by walk_at "l",by walk_at "l",by walk_at "l",by walk_at "l",by walk_at "l",by walk_at "l",trivial⟩
 | nil =>
  intro st hp' l HS hG hl
  cases hG
  show WB d _ _ _ _
  walk_at "w"
  exact hK hp' l HS hl
end
section
variable {d:Wd} {c:Cx} {σ:St}
theorem none_one (n:Nat):noneL n = .list ((List.replicate n ()).map fun _=>V.none):=by rw[List.map_replicate]
theorem law3 {A0:Around} {L:Addr} {b:Bd} {low:Key} {hp3 hp0:Addr->Option AO} {B C x Sd Dd:Addr} {Ac:Nat->Addr} {A:Int->Addr} {vis:Vis} {t0:SD} {S0:Srt} {nd0:Nat} {KT:Fl->St->Prop} (HB:BdG b low) (R':Rm (cxOf A0 (fd253 d.w.params) L 253).A 19)
  (Fx:LawFix b hp3 B C Ac A vis) (hnd:(vis.map (·.1)).Nodup) (HS0:LawS hp3 hp0 x S0 t0 Sd Dd [] nd0) (hn0:nd0+5<=400) (hR0:roundsF b vis 5 0 S0 []=true) (hT:∀ σ',KT (.ret (.bool true)) σ') :
  WB d (cxOf A0 (fd253 d.w.params) L 253) (lawB 8) ⟨lk (lawL b B C x Sd Dd),hp0⟩ KT:=by
 refine elE Fx.bk fun epB eB=>?_
 refine WB_cons ?_
 walk_at "w"
 refine WS_For (fun _ _ q=>q) R'.handled ?_
 walk_at "w"
 refine call_range ?_
 refine ⟨_,_,iter_rng (n:=5) (by decide),?_⟩
 rw[show rInts 5=(List.range' 0 5).map (fun i:Nat=>V.int (i:Int)) from by unfold rInts;rw[List.range_eq_range']]
 refine (fun G:(∀ (n m:Nat) (S:Srt) (st:Sett) (t:SD) (nd:Nat) (hp':Addr->Option AO) (l:List (Str×V)),m+n=5->nd+n<=400->LawS hp3 hp' x S t Sd Dd st nd->roundsF b vis n m S st=true->LocIn (lk l) (lawL b B C x Sd Dd) ->
   ForRun d _ _ _ _ _ _ ((List.range' m n).map fun i:Nat=>V.int (i:Int)) ⟨lk l,hp'⟩)=>G 5 0 S0 [] t0 nd0 _ _ rfl hn0 HS0 hR0 ⟨?l1,?l2,?l3,?l4,?l5,?l6,trivial⟩) ?_
 case l1=>walk_at "l"
 case l2=>walk_at "l"
 case l3=>walk_at "l"
 case l4=>walk_at "l"
 case l5=>walk_at "l"
 case l6=>walk_at "l"
 clear HS0 hR0 hn0
 intro n
 induction n with
 | zero =>
  intro m S st t nd hp' l hm hnn HS hR hl
  refine (fun G:WB d _ _ ⟨lk (lawL b B C x Sd Dd),hp'⟩ _=>Ev.sub (le_loc hl) G) ?_
  clear hl l
  have hd:=HS.de
  unfold roundsF at hR
  split at hR
  ·rename_i l er
   rw[Bool.and_eq_true,decide_eq_true_iff,Bool.not_eq_true'] at hR
   refine elA hR fun hl ha=>?_
   try clear hR
   walk_at "w"
   refine getM_S (name:=ofS "is_active") (f:=162) HS.srt.obj (by walk_at "m nolook") (by kernel_rfl!) (by kernel_rfl!) ?_
   walk_at "w"
   refine active_spec (R'.le (by decide)) HS.srt er (Nat.le_trans hl (by decide)) ?_
   rw[ha]
   walk_at "w"
   try simp only[Bool.not_false,if_true]
   walk_at "w"
   refine W_Cmp2 true (l:=[]) (by kernel_rfl!) R'.handled ?_
   walk_at "w"
   rw[none_one] at hd
   refine ⟨_,_,iter_list hd,by simp;exact Y44 hnn,trivial,fun C0=>?_⟩
   refine comp_pure (α:=Unit) (f:=fun _=>V.none) (e:=fun _=>V.none) (p:=fun _=>false) (fun v=>[(ofS "deed",v)]) (by kernel_rfl!) (fun v=>by walk_at "p") (fun u v=>by walk_at "p") hd (List.replicate nd ()) (fun one ho=>?_) (fun one ho hno=>nomatch hno) _ ?_
   ·show WT d _ _ _ _
    walk_at "w"
    refine cmp_isNotNone (b:=true) rfl ?_
    walk_at "w"
    exact⟨rfl,rfl⟩
   rw[List.nil_append,List.filter_eq_nil_iff.mpr fun _ _=>by simp]
   show W d _ _ _ _
   refine W_List ?_
   walk_at "w"
   refine ⟨by simp,?_⟩
   refine cmp_eqKs (a:=[]) (b:=[]) (R'.le (by decide)) ?_
   walk_at "w"
   exact hT _
  ·cases hR
 | succ n ih =>
  intro m S st t nd hp' l hm hnn HS hR hl
  rw[List.range'_succ,List.map_cons]
  refine (fun G:ForRun d _ _ _ _ _ _ _ ⟨lk (lawL b B C x Sd Dd),hp'⟩=>ForRun.sub (le_loc hl) G) ?_
  clear hl l
  unfold roundsF at hR
  split at hR
  ·cases hR
  rename_i gS e1
  split at hR
  ·cases hR
  rename_i st' e2
  refine elEEAAA (roundS_some e1) fun g S' hq2 r1 r2 zz0=>?_
  refine elAAAAAA zz0 fun r3 r4 r5 r6 r7 r8 r9=>?_
  subst hq2
  have hm5:m < 5:=Y124 hm
  have hcl:=HS.old _ _ Fx.co
  show Asg d _ _ _ _ _
  walk_at "w"
  refine getM_S (name:=ofS "is_active") (f:=162) HS.srt.obj (by walk_at "m nolook") (by kernel_rfl!) (by kernel_rfl!) ?_
  walk_at "w"
  refine active_spec (R'.le (by decide)) HS.srt r1 (Nat.le_trans r3 (by decide)) ?_
  rw[r2]
  walk_at "w"
  try simp only[if_true]
  walk_at "w"
  refine getM_S (name:=ofS "get_ready") (f:=155) HS.srt.obj (by walk_at "m nolook") (by kernel_rfl!) (by kernel_rfl!) ?_
  walk_at "w"
  refine ready_spec (R'.le (by decide)) HS.srt r1 (Nat.le_trans r3 (by decide)) r4 fun hp2 s2 k2=>?_
  have HS2:=HS.sorter s2 k2
  clear HS s2 k2 hcl
  have hcl:=HS2.old _ _ Fx.co
  have hci:=HS2.old _ _ (Fx.ci m hm5)
  walk_at "w"
  refine call_sortedT (Nat.lt_of_le_of_lt r3 (by decide)) fun g' p1 p2=>?_
  have hg':g'=clN b.keys 16 m:=List.Perm.eq_of_pairwise (fun a b _ _ h1 h2=>Int.le_antisymm h1 h2) p2 r6 (p1.trans r5)
  subst hg'
  clear p1 p2
  walk_at "w"
  refine sub_list (v:=V.obj (Ac m)) hcl (Int.natCast_nonneg m) (Y56 hm5) (by rw[Int.toNat_natCast,List.getElem?_map,List.getElem?_range hm5];rfl) ?_
  refine cmp_neInts (R'.le (by decide)) hci ?_
  rw[decide_eq_true rfl]
  walk_at "w"
  try simp only[Bool.not_true,Bool.false_eq_true,if_false]
  walk_at "w"
  refine getM_S (name:=ofS "get_ready") (f:=155) HS2.srt.obj (by walk_at "m nolook") (by kernel_rfl!) (by kernel_rfl!) ?_
  walk_at "w"
  refine ready_spec (l:=[]) (R'.le (by decide)) HS2.srt rfl (by simp) (fun _ h=>nomatch h) fun hp3' s3 k3=>?_
  have HS3:=HS2.sorter s3 k3
  clear HS2 s3 k3 hcl hci
  walk_at "w"
  refine W_Tuple ?_
  walk_at "w"
  refine ⟨by simp,?_⟩
  refine cmp_neK (a:=[]) (b:=[]) (R'.le (by decide)) ?_
  rw[decide_eq_true rfl]
  walk_at "w"
  try simp only[Bool.not_true,Bool.false_eq_true,if_false]
  walk_at "w"
  refine getM_S (name:=ofS "is_active") (f:=162) HS3.srt.obj (by walk_at "m nolook") (by kernel_rfl!) (by kernel_rfl!) ?_
  walk_at "w"
  refine active_spec (l:=[]) (R'.le (by decide)) HS3.srt rfl (by simp) ?_
  rw[decide_eq_true r7,Bool.true_or]
  walk_at "w"
  try simp only[Bool.not_true,Bool.false_eq_true,if_false]
  walk_at "w"
  try simp only[Bool.false_eq_true,if_false]
  walk_at "w"
  refine WS_For (fun _ _ q=>q) R'.handled ?_
  walk_at "w"
  refine ⟨_,_,iter_tup,?_⟩
  refine law_in (g:=g) (size:=m) HB R' Fx hnd (fun hp4 l' HS4 hl'=>?_) g st _ _ HS3 e2 ⟨by walk_at "l",by walk_at "l",by walk_at "l",by walk_at "l",by walk_at "l",by walk_at "l",by walk_at "l",trivial⟩
  refine (fun G:WB d _ _ ⟨lk (lawL b B C x Sd Dd++[(ofS "group",.tup (g.map V.int))]),hp4⟩ _=>Ev.sub (le_loc hl') G) ?_
  clear hl' l' HS3
  dsimp only [lawL,List.cons_append,List.nil_append]
  walk_at "w"
  refine getM_list HS4.de PySem.F.slot_list_append PySem.F.type_list_append ?_
  walk_at "w"
  refine W_MethS ?_
  walk_at "w"
  refine ⟨x,193,176,_,rfl,HS4.srt.obj,by walk_at "m nolook",mf_done,?_⟩
  walk_at "w"
  refine ⟨_,rfl,by simpa using Nat.le_trans r3 (by decide),?_⟩
  refine done_spec (l:=[]) (B:=25) (C:=0) (R'.le (by decide)) HS4.srt rfl (Nat.le_trans r3 (by decide)) ⟨r8.s,fun l e=>by cases e;exact Nat.le_refl _⟩ (Y93 r3) r9 fun hp5 s5 k5=>?_
  have HS5:=HS4.sorter s5 k5
  clear HS4 s5 k5
  walk_at "w"
  refine call_append HS5.de (by simp;exact Y128 hnn) ?_
  rw[show List.replicate nd V.none++[V.none]=List.replicate (nd+1) V.none from rep_add (m:=1)]
  have HS6:=HS5.deed (m:=1)
  walk_at "w"
  refine ⟨trivial,?_⟩
  refine ih (m+1) S' st' t (nd+1) _ _ (Y123 hm) (Y127 hnn) HS6 hR ?_
  exact⟨by walk_at "l",by walk_at "l",by walk_at "l",by walk_at "l",by walk_at "l",by walk_at "l",trivial⟩
theorem law2 {A0:Around} {L:Addr} {b:Bd} {low:Key} {hp3 hp0:Addr->Option AO} {B C x Sd Dd:Addr} {Ac:Nat->Addr} {A:Int->Addr} {vis:Vis} {t0:SD} {S0 S1:Srt} {nd0:Nat} {KT:Fl->St->Prop} (HB:BdG b low) (R':Rm (cxOf A0 (fd253 d.w.params) L 253).A 19)
  (Fx:LawFix b hp3 B C Ac A vis) (hnd:(vis.map (·.1)).Nodup) (HS0:LawS hp3 hp0 x S0 t0 Sd Dd [] nd0) (hn0:nd0<=300) (hP:prepOk S0=some S1) (hR0:roundsF b vis 5 0 S1 []=true) (hT:∀ σ',KT (.ret (.bool true)) σ') :
  WB d (cxOf A0 (fd253 d.w.params) L 253) (lawB 7) ⟨lk (lawL b B C x Sd Dd),hp0⟩ KT:=by
 unfold prepOk at hP
 split at hP
 ·rename_i q
  refine elAAA q fun q1 q2 q3 q4=>?_
  try clear q
  cases hP
  refine elE (Option.isSome_iff_exists.mp q4) fun fin q4=>?_
  refine WB_cons ?_
  walk_at "w"
  refine getM_list HS0.de PySem.F.slot_list_append PySem.F.type_list_append ?_
  walk_at "w"
  refine getM_S (name:=ofS "prepare") (f:=148) HS0.srt.obj (by walk_at "m nolook") (by kernel_rfl!) (by kernel_rfl!) ?_
  walk_at "w"
  refine prep_spec (R'.le (by decide)) HS0.srt (Option.isNone_iff_eq_none.mp q1) q2 q3 q4 fun hp2 t2 s2 k2=>?_
  have HS2:=HS0.sorter s2 k2
  clear HS0 s2 k2
  walk_at "w"
  refine call_append HS2.de (by simp;exact Y101 hn0) ?_
  rw[show List.replicate nd0 V.none++[V.none]=List.replicate (nd0+1) V.none from rep_add (m:=1)]
  have HS3:=HS2.deed (m:=1)
  walk_at "m1"
  exact law3 HB R' Fx hnd HS3 (Y100 hn0) hR0 hT
 ·cases hP
end
section
variable {d:Wd} {c:Cx} {σ:St}
theorem law_body {A0:Around} {L:Addr} {ns:List Int} {hp0:Addr->Option AO} {KT:Fl->St->Prop} (R':Rm (cxOf A0 (fd253 d.w.params) L 253).A 19) (hz:ns.length<=1000)
  (hbd:∀ U∈trees,∀ mk,∃ low,BdG ⟨sortK U,msOf mk 4 U 1,msOf mk 4 U 2⟩ low/\chkL ⟨sortK U,msOf mk 4 U 1,msOf mk 4 U 2⟩=true) (hT:∀ σ',KT (.ret (.bool true)) σ') :
  WB d (cxOf A0 (fd253 d.w.params) L 253) (kidS S20) ⟨lk [(ofS "script",.lst (ns.map V.int))],hp0⟩ KT:=by
 refine WB_cons ?_
 walk_at "w"
 refine board_spec (R'.le (by decide)) hz fun U hU mk hp1 _=>?_
 refine elEA (hbd U hU mk) fun low HB hchk=>?_
 generalize (⟨sortK U,msOf mk 4 U 1,msOf mk 4 U 2⟩:Bd)=b at *
 unfold chkL at hchk
 split at hchk
 ·cases hchk
 rename_i S1 eS1
 split at hchk
 ·cases hchk
 rename_i S2 eS2
 rw[Bool.and_eq_true,decide_eq_true_iff] at hchk
 refine elA hchk fun hlen hrd=>?_
 try clear hchk
 walk_at "w"
 refine book_spec HB (R'.le (by decide)) hlen fun hp2 B A HBk HL=>?_
 walk_at "w"
 refine sub_lst (v:=ksV b.keys) (by decide) (by decide) rfl ?_
 walk_at "w"
 refine closed_spec (R'.le (by decide)) HB.len (fun k hk=>(HB.ok.kk k hk).2) fun hp3 C Ac HC=>?_
 refine elE HBk.di fun epB eB=>?_
 have Fx:LawFix b hp3 B C Ac A (ordF b.keys 5 b.keys []):=⟨⟨epB,HC.old _ _ eB⟩,fun v hv=>HC.old _ _ (HL v hv),HC.out,HC.ins⟩
 have hnd:=HBk.nd
 generalize ordF b.keys 5 b.keys []=vis at *
 clear HL HC eB HBk
 walk_at "w"
 refine call_sorter (R'.le (by decide)) fun x t hp4 hx4 hs4 ho4 hf4=>?_
 walk_at "w"
 refine W_DictI fun Sd epS fS=>?_
 walk_at "w"
 refine W_ListM ?_
 walk_at "w"
 refine ⟨by simp,fun Dd fD=>?_⟩
 have HS:LawS hp3 (updH (updH hp4 Sd (.dictI [] epS)) Dd (.list [])) x srt0 t Sd Dd [] 0:=LawS.init hs4 ho4 hf4 fS fD
 clear hs4 ho4 hf4
 walk_at "m1"
 walk_at "m1"
 walk_at "m1"
 refine Ev.sub (le_loc (l':=lawL b B C x Sd Dd) ⟨?l1,?l2,?l3,?l4,?l5,?l6,trivial⟩) ?_
 case l1=>walk_at "l"
 case l2=>walk_at "l"
 case l3=>walk_at "l"
 case l4=>walk_at "l"
 case l5=>walk_at "l"
 case l6=>walk_at "l"
 exact law1 R' Fx hnd hlen HS eS1 fun hp' t' nd' hn' HS'=>law2 HB R' Fx hnd HS' hn' eS2 hrd hT
end
section
variable {d:Wd}
open Classical in
noncomputable def g0 (h:Heap) (L':Addr):Gh:=fun x=>if (h.get? x).isSome then .frz else .own L'
theorem Top_def {A:Around} {fa:Addr} {I5:Obj} {fd:FuncData} {body:List Stmt} {xs:List Value} {binds:List (Str×Value)} {bs:List (Str×V)} {dr:Drawn} {tk:Tok} {z:Value} (ok:d.Ok) (hA:A.frames=some [])
  (hroom:A.depth < recursionLimit) (ho:d.K.lookup fa=some I5) (hfd:I5.data = .func fd) (hcd:codeIn d.K fd.code fd.qualname=true) (hbody:fd.body = .stmts body)
  (hbind:bindArgs fd ⟨xs,[]⟩=pure binds) (rb:∀ g:Gh,(∀ b o,d.hB.get? b=some o->g b = .frz)->RepKV g d.hB bs binds) (hnd:decide (bs.map (·.1)).Nodup=true)
  (hkind:∀ L,(bs.map (·.1)).all (fun x=>fd.scope.names.lookup x == some .local||(fd.scope.names.lookup x == some .cell&&((cellsFrom L fd.scope.names []).lookup x).isSome))=true)
  (hg:fd.globals=mainGlobals) (hbi:fd.builtins=builtinsNs) (hclo:fd.closure=[])
  (h:∀ L,WB d (cxOf A fd L fa) body ⟨lk bs,fun _=>none⟩ fun f _=>f = .ret (.raw z))
  (hco:fd.scope.isCoroutine=false:=by kernel_rfl) (hgen:fd.scope.isGenerator=false:=by kernel_rfl) (hk:fd.scope.kind = .function:=by kernel_rfl) :
  wpAny (model d.prog d.w) A (call (.ref fa) xs) (fun v s'=>v=z/\(∀ b o,d.hB.get? b=some o->s'.heap.get? b=some o)/\s'.os=d.os/\s'.gens=d.gens) (fun _ _=>False) ⟨d.hB,d.gens,dr,tk,d.os⟩:=by
 refine wpAny_call (codeAny_call_function hroom (ok.inK _ _ ho) hfd hco hgen hbody (codeRec_of ok.inK hcd) ?_)
 rw[hbind]
 refine wpAny_pure ?_
 have rb0:=rb (fun _=>.frz) fun _ _ _=>rfl
 have hkeys:binds.map (·.1)=bs.map (·.1):=rb0.keys.symm
 have hnd':(binds.map (·.1)).Nodup:=by rw[hkeys];exact of_decide_eq_true hnd
 rw[hclo]
 refine wpAny_newFunctionEnv_cells hk (fun x hx=>?_) fun env he J7 x=>?_
 ·have:=List.all_eq_true.mp (hkind (d.hB.objs.size+1)) x.1 (hkeys ▸ List.mem_map_of_mem hx)
  simp only[Bool.or_eq_true,Bool.and_eq_true,beq_iff_eq] at this
  exact this
 subst he
 refine ⟨ok.top.nolimit.keeps fun b o e=>x.toInCall.keep b o e,codeAny_func ?_⟩
 refine elEE x.toInCall.same fun hh tk' hq2=>?_
 subst hq2
 have hold:∀ b o,d.hB.get? b=some o->hh.get? b=some o:=x.toInCall.keep
 let L':=d.hB.objs.size
 have gnew:∀ b,L'<=b->g0 d.hB L' b = .own L':=fun b hb=>by
  unfold g0
  cases q:d.hB.get? b with
  | none=>rfl
  | some o=>exact absurd (Heap.lt_size q) (Nat.not_lt.mpr hb)
 have gold:∀ b o,d.hB.get? b=some o->g0 d.hB L' b = .frz:=fun b o e=>by unfold g0;rw[e];rfl
 have rb1:=rb (g0 d.hB L') gold
 have kin:∀ b o,g0 d.hB L' b = .frz->d.hB.get? b=some o->g0 d.hB L' b = .frz/\hh.get? b=some o:=fun b o e eo=>⟨e,hold b o eo⟩
 have R0:Rep d (g0 d.hB L') (A.deeper (callEnvC fd L' fa)) (callEnvC fd L' fa) ⟨lk bs,fun _=>none⟩ ⟨hh,d.gens,dr,tk',d.os⟩:=by
  refine ⟨⟨hh,_,tk',rfl⟩,fun b o e=>⟨gold b o e,hold b o e⟩,frR_call rfl x hnd' hkind rb1 kin gnew hk hg hbi (Nat.le_refl _),?_,fun a ao e=>(by cases e),ok⟩
  ·refine ⟨[callEnvC fd L' fa],by show A.frames.map _=_;rw[hA];rfl,fun en hen=>?_⟩
   rcases List.mem_cons.mp hen with rfl | hen
   ·refine elEEEAA x.toInCall.ns fun o es ep ho' hd' uu=>?_
    exact⟨by (show fd.scope.kind≠_);rw[hk];(intro q;cases q),L',o,rfl,Nat.le_refl _,.inr rfl,ho',es,ep,hd'⟩
   ·cases hen
 refine wpAny_mono (h L' _ _ R0) (fun f J8 zz=>zz.elim fun E3 f' σ3 I9 G9 rf hK=>?_) (fun e J8 zz=>zz.elim fun uu uu uu uu uu uu hF=>hF.elim)
 subst hK
 refine elEEE I9.sh fun h3 dr3 tk3 hq3=>?_
 subst hq3
 cases rf with
 | ret q =>
  cases q with
  | raw _=>exact⟨rfl,fun b o e=>(I9.base b o e).2,rfl,rfl⟩
theorem script_IsL {R:WRecords} {w:World} {J5 J6:Shared} {args:List WData} {vs:List Value} {as:List Addr} {t:Addr} {items:Array Value} (L:Laid R w J5 J6 args vs as) (hin:t∈as) (hL:J6.heap.IsList t items):∃ n,IsL J6.heap t items n:=by
 refine elEAA hL fun o ho hc zz0=>?_
 refine elE zz0 fun n hd=>?_
 try clear hL
 have:=L.list (L.new hin) ho hc hd
 subst this
 exact⟨_,ho⟩
theorem law_top (ok:d.Ok) {ns:List Int} {t:Addr} {items:List Value} {n:Nat} {dr:Drawn} {tk:Tok} (hz:ns.length<=1000) (hbd:∀ U∈trees,∀ mk,∃ low,BdG ⟨sortK U,msOf mk 4 U 1,msOf mk 4 U 2⟩ low/\chkL ⟨sortK U,msOf mk 4 U 1,msOf mk 4 U 2⟩=true)
  (ht:IsL d.hB t items.toArray n) (hI:IntsAre items ns) :
  wpAny (model d.prog d.w) callerA (call (.ref 253) [.ref t]) (fun v s'=>v = .bool true/\(∀ b o,d.hB.get? b=some o->s'.heap.get? b=some o)/\s'.os=d.os/\s'.gens=d.gens) (fun _ _=>False) ⟨d.hB,d.gens,dr,tk,d.os⟩:=by
 have R:Rm callerA 20:=⟨by decide,by decide,rfl⟩
 refine Top_def (fd:=fd253 d.w.params) (body:=kidS S20) (bs:=[(ofS "script",.lst (ns.map V.int))]) (binds:=[(ofS "script",.ref t)]) ok rfl R.room (I5:=o253 d.w.params) (by kernel_rfl!) (by kernel_rfl!) (by kernel_rfl!) (by kernel_rfl!) rfl (fun g hg=>.cons (.lst (hg _ _ ht) ht (by rw[List.toList_toArray];exact ints_rep hI)) .nil)
  (by kernel_rfl!) (fun L=>by kernel_rfl!) (by kernel_rfl!) (by kernel_rfl!) (by kernel_rfl!) fun L=>?_
 exact law_body (A0:=callerA) (d:=d) R.in hz hbd fun _=>rfl
end
section
noncomputable def subs {α:Type}:List α->List (List α)
 | []=>[[]]
 | a::l=>subs l++(subs l).map (a :: ·)
theorem filter_subs {α:Type} (p:α->Bool):∀ l:List α,l.filter p∈subs l
 | []=>.head _
 | a::l=>by
  unfold subs
  rw[List.filter_cons]
  split
  ·exact List.mem_append_right _ (List.mem_map_of_mem (filter_subs p l))
  ·exact List.mem_append_left _ (filter_subs p l)
noncomputable abbrev bC (keys cs:List Key):Bd:=⟨keys,cs,[]⟩
theorem mine_bC {keys cs:List Key} {k:Key}:mineM (bC keys cs) k=decide (k∈cs):=by unfold mineM;simp
theorem goW_congr {b b':Bd} {wf wf':Key->Option Int} {root:Key}:∀ {ks:List Key} {w:Int},(∀ k∈ks,mineM b k=mineM b' k/\wf k=wf' k)->goW b wf root ks w=goW b' wf' root ks w
 | [],_,_=>rfl
 | k::ks,w,h=>by
  refine elA (h k (.head _)) fun h1 h2=>?_
  have hs:sideF b k=sideF b' k:=by unfold sideF;rw[h1]
  unfold goW
  rw[h2,hs]
  congr 1
  ·exact congrArg (Option.bind (wf' k)) (funext fun r=>congrArg (Option.bind (daysF (sideF b' k * r) 100 1)) (funext fun dy=>goW_congr fun k hk=>h k (.tail _ hk)))
  ·exact goW_congr fun k hk=>h k (.tail _ hk)
theorem worthF_congr {b b':Bd} {pos:List Key} (h:∀ k∈pos,mineM b k=mineM b' k):∀ (f:Nat) (root:Key),worthF b pos f root=worthF b' pos f root
 | 0,_=>rfl
 | f+1,root=>by
  unfold worthF
  exact goW_congr fun k hk=>⟨h k hk,worthF_congr h f k⟩
theorem stepS_congr {b b':Bd} {st:Sett} {w:Int}:∀ {l:List (Key×(Int×Bool))} {f:Bool×Bool},(∀ k∈l.map (·.1),mineM b k=mineM b' k)->stepS b st w l f=stepS b' st w l f
 | [],_,_=>rfl
 | (k,(o,ow))::r,f,h=>by
  have h1:=h k (.head _)
  unfold stepS
  rw[h1]
  split
  ·rfl
  ·rw[stepS_congr fun k hk=>h k (.tail _ hk)]
theorem mvF_congr {b b':Bd} {pos:List Key} (hk:b.keys=b'.keys) (h:∀ k∈pos,mineM b k=mineM b' k):mvF b pos=mvF b' pos:=by
 unfold mvF
 exact List.map_congr_left fun k hm=>by rw[hk,h k hm]
theorem posK_keys {keys:List Key} {q:Nat} (h4:keys.length=4):∀ k∈posK keys q,k∈keys:=posK_mem (p:=fun k=>k∈keys) h4 fun _ h=>h
theorem settQ_congr {b b':Bd} {vis:Vis} {m:Int} {st:Sett} (h4:b.keys.length=4) (hk:b.keys=b'.keys) (h:∀ k∈b.keys,mineM b k=mineM b' k):settQ b vis m st=settQ b' vis m st:=by
 unfold settQ
 split
 ·rfl
 rename_i pos _
 rw[<- hk]
 by_cases c:(m.toNat:Int)=m/\pos=posK b.keys m.toNat/\m ∉ st.map (·.1)/\st.length<=90
 ·rw[if_pos c,if_pos c]
  have hp:∀ k∈pos,mineM b k=mineM b' k:=fun k hm=>h k (posK_keys h4 k (c.2.1 ▸ hm))
  rw[worthF_congr hp,mvF_congr hk hp]
  congr 1
  funext w
  rw[stepS_congr fun k hm=>?_]
  refine elEA (List.mem_map.mp hm) fun p h1 hq2=>?_
  subst hq2
  exact hp _ (List.of_mem_zip h1).1
 ·rw[if_neg c,if_neg c]
theorem settG_congr {b b':Bd} {vis:Vis} (h4:b.keys.length=4) (hk:b.keys=b'.keys) (h:∀ k∈b.keys,mineM b k=mineM b' k):∀ (g:List Int) (st:Sett),settG b vis g st=settG b' vis g st
 | [],_=>rfl
 | m::r,st=>by
  unfold settG
  rw[settQ_congr h4 hk h]
  congr 1
  funext st'
  exact settG_congr h4 hk h r st'
theorem roundsF_congr {b b':Bd} {vis:Vis} (h4:b.keys.length=4) (hk:b.keys=b'.keys) (h:∀ k∈b.keys,mineM b k=mineM b' k):∀ (n m:Nat) (S:Srt) (st:Sett),roundsF b vis n m S st=roundsF b' vis n m S st
 | 0,_,_,_=>rfl
 | n+1,m,S,st=>by
  unfold roundsF
  rw[<- hk]
  split
  ·rfl
  rename_i gS _
  rw[settG_congr h4 hk h]
  split
  ·rfl
  ·exact roundsF_congr h4 hk h n _ _ _
theorem chkL_congr {b b':Bd} (h4:b.keys.length=4) (hk:b.keys=b'.keys) (h:∀ k∈b.keys,mineM b k=mineM b' k):chkL b=chkL b':=by
 unfold chkL
 rw[<- hk]
 split
 ·rfl
 split
 ·rfl
 rw[roundsF_congr h4 hk h]
noncomputable def rndG (keys:List Key):Nat->Nat->Srt->Option (List (List Int))
 | 0,_,S=>match S.rdy with
  | some l=>if (decide (l.length<=100) && !(decide (S.fi < S.po) || !l.isEmpty))=true then some [] else none
  | none=>none
 | n+1,m,S=>match roundS keys m S with
  | none=>none
  | some gS=>(rndG keys n (m+1) gS.2).map (gS.1 :: ·)
noncomputable def settA (b:Bd) (vis:Vis):List (List Int)->Sett->Bool
 | [],_=>true
 | g::gs,st=>match settG b vis g st with
  | none=>false
  | some st'=>settA b vis gs st'
theorem rnd_sett {b:Bd} {vis:Vis}:∀ {n m:Nat} {S:Srt} {st:Sett} {gs:List (List Int)},rndG b.keys n m S=some gs->settA b vis gs st=true->roundsF b vis n m S st=true
 | 0,m,S,st,gs,h,_=>by
  have h':(match S.rdy with | some l=>(if (decide (l.length<=100) && !(decide (S.fi < S.po) || !l.isEmpty))=true then some [] else none) | none=>none)=some gs:=h
  show (match S.rdy with | some l=>(decide (l.length<=100) && !(decide (S.fi < S.po) || !l.isEmpty)) | none=>false)=true
  cases e:S.rdy with
  | none=>rw[e] at h';cases h'
  | some l =>
   rw[e] at h'
   show (decide (l.length<=100) && !(decide (S.fi < S.po) || !l.isEmpty))=true
   by_cases c:(decide (l.length<=100) && !(decide (S.fi < S.po) || !l.isEmpty))=true
   ·exact c
   ·have h2:(if (decide (l.length<=100) && !(decide (S.fi < S.po) || !l.isEmpty))=true then some [] else none)=some gs:=h'
    rw[if_neg c] at h2;cases h2
 | n+1,m,S,st,gs,h,hs=>by
  have h':(match roundS b.keys m S with | none=>none | some gS=>(rndG b.keys n (m+1) gS.2).map (gS.1 :: ·))=some gs:=h
  show (match roundS b.keys m S with | none=>false | some gS=>(match settG b vis gS.1 st with | none=>false | some st'=>roundsF b vis n (m+1) gS.2 st'))=true
  cases e:roundS b.keys m S with
  | none=>rw[e] at h';cases h'
  | some gS =>
   rw[e] at h'
   refine elEA (Option.map_eq_some_iff.mp h') fun gs' h2 hq2=>?_
   subst hq2
   have hs':(match settG b vis gS.1 st with | none=>false | some st'=>settA b vis gs' st')=true:=hs
   show (match settG b vis gS.1 st with | none=>false | some st'=>roundsF b vis n (m+1) gS.2 st')=true
   cases q:settG b vis gS.1 st with
   | none=>rw[q] at hs';cases hs'
   | some st' =>
    rw[q] at hs'
    exact rnd_sett h2 hs'
noncomputable def grpK (keys:List Key):Option (List (List Int)):=(addsF keys (ordF keys 5 keys []) srt0).bind fun S=>(prepOk S).bind fun S'=>if (ordF keys 5 keys []).length<=100 then rndG keys 5 0 S' else none
theorem chkL_of {b:Bd} {vis:Vis} {gs:List (List Int)} (h4:b.keys.length=4) (hv:ordF b.keys 5 b.keys []=vis) (hg:grpK b.keys=some gs) (h:(subs b.keys).all (fun cs=>settA (bC b.keys cs) vis gs [])=true):chkL b=true:=by
 rw[chkL_congr (b':=bC b.keys (b.keys.filter (mineM b))) h4 rfl fun k hk=>?_]
 ·have h:=List.all_eq_true.mp h _ (filter_subs (mineM b) b.keys)
  subst hv
  unfold grpK at hg
  refine elEA (Option.bind_eq_some_iff.mp hg) fun S e1 hg=>?_
  refine elEA (Option.bind_eq_some_iff.mp hg) fun S' e2 hg=>?_
  by_cases c:(ordF b.keys 5 b.keys []).length<=100
  ·rw[if_pos c] at hg
   unfold chkL
   dsimp only [bC]
   rw[e1]
   dsimp only
   rw[e2]
   dsimp only
   rw[decide_eq_true c,Bool.true_and]
   exact rnd_sett (b:=bC b.keys (b.keys.filter (mineM b))) hg h
  ·rw[if_neg c] at hg;cases hg
 ·rw[mine_bC]
  cases e:mineM b k with
  | true=>exact (decide_eq_true (List.mem_filter.mpr ⟨hk,e⟩)).symm
  | false=>exact (decide_eq_false fun q=>by rw[(List.mem_filter.mp q).2] at e;cases e).symm
noncomputable def treeOk (U:List Key):Bool:=decide (U.length=4)&&decide ((sortK U).length=4)&&decide ((sortK U).Pairwise fun a b=>kLt a b=true)&&(sortK U).all (fun k=>decide (k≠[])&&decide (k.length<=4)&&decide ((0:Fin 4) ∉ k)&&(List.range 5).all fun n=>decide (k.take n=[])||decide (k.take n∈sortK U))
 && U.all (fun k=>decide (k∈sortK U))&&decide ((sortK U)[0]? = some ((sortK U).headD []))&&decide (((sortK U).headD []).length=1)
theorem trees_good:trees.all treeOk=true:=by decide +kernel
theorem msOf_mem {mk:Nat->Nat} {U:List Key} {i:Nat} (h4:U.length=4):∀ k∈msOf mk 4 U i,k∈U:=fun k hk=>by
 unfold msOf at hk
 refine elEA (List.mem_map.mp hk) fun q h1 hq2=>?_
 subst hq2
 have hq:=List.mem_range.mp (List.mem_filter.mp h1).1
 rw[List.getD_eq_getElem?_getD,List.getElem?_eq_getElem (Y187 h4 hq)]
 exact List.getElem_mem ..
theorem bd_good {U:List Key} (hU:U∈trees) (mk:Nat->Nat):BdG ⟨sortK U,msOf mk 4 U 1,msOf mk 4 U 2⟩ ((sortK U).headD []):=by
 have h:=List.all_eq_true.mp trees_good U hU
 unfold treeOk at h
 simp only[Bool.and_eq_true,decide_eq_true_iff,List.all_eq_true,Bool.or_eq_true] at h
 refine elA h fun hn0 h7=>?_
 try clear h
 refine elA hn0 fun hn0 h6=>?_
 obtain⟨⟨⟨⟨h1,h2⟩,h3⟩,h4⟩,h5⟩:=hn0
 have m1:=msOf_le mk 4 U 1
 have m2:=msOf_le mk 4 U 2
 have k4:∀ k∈sortK U,k≠[]/\k.length<=4:=fun k hk=>(h4 k hk).1.1
 have s1:∀ i,∀ k∈msOf mk 4 U i,k∈sortK U:=fun i k hk=>h5 k (msOf_mem h1 k hk)
 refine ⟨⟨Nat.le_trans m1 (by decide),Nat.le_trans m2 (by decide),by show (sortK U).length<=100;exact Y67 h2,fun k hk=>⟨(k4 k (s1 2 k hk)).1,Nat.le_trans (k4 k (s1 2 k hk)).2 (by decide)⟩,fun k hk=>⟨(k4 k hk).1,Nat.le_trans (k4 k hk).2 (by decide)⟩⟩,
  ⟨h3,fun k hk=>(k4 k hk).1,fun k hk p hp hpre=>?_,fun _ h=>h,Nat.le_of_eq h2⟩,h6,h7,fun k hk=>(h4 k hk).1.2,s1 1,s1 2,h2,m1,m2,fun k hk=>Nat.le_trans (k4 k hk).2 (by decide)⟩
 have e:=List.prefix_iff_eq_take.mp hpre
 have hl:=hpre.length_le
 have:=(h4 k hk).2 p.length (List.mem_range.mpr (by have:=(k4 k hk).2;exact Y179 hl this))
 rw[<- e] at this
 exact this.resolve_left hp
end
section
structure Tr where
 keys:List Key
 vis:Vis
 gs:List (List Int)
noncomputable def Tr.ok (t:Tr):Prop:=ordF t.keys 5 t.keys []=t.vis/\grpK t.keys=some t.gs/\(subs t.keys).all (fun cs=>settA (bC t.keys cs) t.vis t.gs [])=true
noncomputable def tr0:Tr:=⟨[[1],[2],[2,2],[3]],[(15,[[1],[2],[2,2],[3]]),(14,[[2],[2,2],[3]]),(8,[[3]]),(0,[]),(10,[[2],[3]]),(2,[[2]]),(6,[[2],[2,2]]),(9,[[1],[3]]),(1,[[1]]),(11,[[1],[2],[3]]),(3,[[1],[2]]),(7,[[1],[2],[2,2]])],[[0],[8,2,1],[10,6,9,3],[14,11,7],[15]]⟩
noncomputable def tr1:Tr:=⟨[[1],[1,2],[2],[3]],[(15,[[1],[1,2],[2],[3]]),(12,[[2],[3]]),(8,[[3]]),(0,[]),(4,[[2]]),(13,[[1],[2],[3]]),(9,[[1],[3]]),(1,[[1]]),(5,[[1],[2]]),(11,[[1],[1,2],[3]]),(3,[[1],[1,2]]),(7,[[1],[1,2],[2]])],[[0],[8,4,1],[12,9,5,3],[13,11,7],[15]]⟩
noncomputable def tr2:Tr:=⟨[[1],[2],[3],[3,2]],[(15,[[1],[2],[3],[3,2]]),(14,[[2],[3],[3,2]]),(12,[[3],[3,2]]),(0,[]),(4,[[3]]),(2,[[2]]),(6,[[2],[3]]),(13,[[1],[3],[3,2]]),(1,[[1]]),(5,[[1],[3]]),(3,[[1],[2]]),(7,[[1],[2],[3]])],[[0],[4,2,1],[12,6,5,3],[14,13,7],[15]]⟩
noncomputable def tr3:Tr:=⟨[[1],[2],[2,1],[2,2]],[(15,[[1],[2],[2,1],[2,2]]),(14,[[2],[2,1],[2,2]]),(0,[]),(10,[[2],[2,2]]),(2,[[2]]),(6,[[2],[2,1]]),(1,[[1]]),(11,[[1],[2],[2,2]]),(3,[[1],[2]]),(7,[[1],[2],[2,1]])],[[0],[2,1],[10,6,3],[14,11,7],[15]]⟩
noncomputable def tr4:Tr:=⟨[[1],[1,2],[2],[2,2]],[(15,[[1],[1,2],[2],[2,2]]),(12,[[2],[2,2]]),(0,[]),(4,[[2]]),(13,[[1],[2],[2,2]]),(1,[[1]]),(5,[[1],[2]]),(3,[[1],[1,2]]),(7,[[1],[1,2],[2]])],[[0],[4,1],[12,5,3],[13,7],[15]]⟩
noncomputable def tr5:Tr:=⟨[[1],[2],[2,2],[2,2,2]],[(15,[[1],[2],[2,2],[2,2,2]]),(14,[[2],[2,2],[2,2,2]]),(0,[]),(2,[[2]]),(6,[[2],[2,2]]),(1,[[1]]),(3,[[1],[2]]),(7,[[1],[2],[2,2]])],[[0],[2,1],[6,3],[14,7],[15]]⟩
noncomputable def tr6:Tr:=⟨[[1],[1,1],[1,2],[2]],[(15,[[1],[1,1],[1,2],[2]]),(8,[[2]]),(0,[]),(13,[[1],[1,2],[2]]),(9,[[1],[2]]),(1,[[1]]),(5,[[1],[1,2]]),(11,[[1],[1,1],[2]]),(3,[[1],[1,1]]),(7,[[1],[1,1],[1,2]])],[[0],[8,1],[9,5,3],[13,11,7],[15]]⟩
noncomputable def tr7:Tr:=⟨[[1],[1,2],[1,2,2],[2]],[(15,[[1],[1,2],[1,2,2],[2]]),(8,[[2]]),(0,[]),(9,[[1],[2]]),(1,[[1]]),(11,[[1],[1,2],[2]]),(3,[[1],[1,2]]),(7,[[1],[1,2],[1,2,2]])],[[0],[8,1],[9,3],[11,7],[15]]⟩
noncomputable def tr8:Tr:=⟨[[2],[2,1],[2,2],[2,3]],[(15,[[2],[2,1],[2,2],[2,3]]),(0,[]),(13,[[2],[2,2],[2,3]]),(9,[[2],[2,3]]),(1,[[2]]),(5,[[2],[2,2]]),(11,[[2],[2,1],[2,3]]),(3,[[2],[2,1]]),(7,[[2],[2,1],[2,2]])],[[0],[1],[9,5,3],[13,11,7],[15]]⟩
noncomputable def tr9:Tr:=⟨[[2],[2,1],[2,2],[2,2,2]],[(15,[[2],[2,1],[2,2],[2,2,2]]),(0,[]),(13,[[2],[2,2],[2,2,2]]),(1,[[2]]),(5,[[2],[2,2]]),(3,[[2],[2,1]]),(7,[[2],[2,1],[2,2]])],[[0],[1],[5,3],[13,7],[15]]⟩
noncomputable def tr10:Tr:=⟨[[2],[2,1],[2,1,2],[2,2]],[(15,[[2],[2,1],[2,1,2],[2,2]]),(0,[]),(9,[[2],[2,2]]),(1,[[2]]),(11,[[2],[2,1],[2,2]]),(3,[[2],[2,1]]),(7,[[2],[2,1],[2,1,2]])],[[0],[1],[9,3],[11,7],[15]]⟩
noncomputable def tr11:Tr:=⟨[[2],[2,2],[2,2,1],[2,2,2]],[(15,[[2],[2,2],[2,2,1],[2,2,2]]),(0,[]),(1,[[2]]),(11,[[2],[2,2],[2,2,2]]),(3,[[2],[2,2]]),(7,[[2],[2,2],[2,2,1]])],[[0],[1],[3],[11,7],[15]]⟩
noncomputable def tr12:Tr:=⟨[[2],[2,2],[2,2,2],[2,2,2,2]],[(15,[[2],[2,2],[2,2,2],[2,2,2,2]]),(0,[]),(1,[[2]]),(3,[[2],[2,2]]),(7,[[2],[2,2],[2,2,2]])],[[0],[1],[3],[7],[15]]⟩
theorem tr0_ok:tr0.ok:=⟨by decide +kernel,by decide +kernel,by decide +kernel⟩
theorem tr1_ok:tr1.ok:=⟨by decide +kernel,by decide +kernel,by decide +kernel⟩
theorem tr2_ok:tr2.ok:=⟨by decide +kernel,by decide +kernel,by decide +kernel⟩
theorem tr3_ok:tr3.ok:=⟨by decide +kernel,by decide +kernel,by decide +kernel⟩
theorem tr4_ok:tr4.ok:=⟨by decide +kernel,by decide +kernel,by decide +kernel⟩
theorem tr5_ok:tr5.ok:=⟨by decide +kernel,by decide +kernel,by decide +kernel⟩
theorem tr6_ok:tr6.ok:=⟨by decide +kernel,by decide +kernel,by decide +kernel⟩
theorem tr7_ok:tr7.ok:=⟨by decide +kernel,by decide +kernel,by decide +kernel⟩
theorem tr8_ok:tr8.ok:=⟨by decide +kernel,by decide +kernel,by decide +kernel⟩
theorem tr9_ok:tr9.ok:=⟨by decide +kernel,by decide +kernel,by decide +kernel⟩
theorem tr10_ok:tr10.ok:=⟨by decide +kernel,by decide +kernel,by decide +kernel⟩
theorem tr11_ok:tr11.ok:=⟨by decide +kernel,by decide +kernel,by decide +kernel⟩
theorem tr12_ok:tr12.ok:=⟨by decide +kernel,by decide +kernel,by decide +kernel⟩
noncomputable def trs:List Tr:=[tr0,tr1,tr2,tr3,tr4,tr5,tr6,tr7,tr8,tr9,tr10,tr11,tr12]
theorem trs_ok:∀ t∈trs,t.ok:=by
 intro t ht
 unfold trs at ht
 simp only[List.mem_cons,List.not_mem_nil,or_false] at ht
 rcases ht with rfl | rfl | rfl | rfl | rfl | rfl | rfl | rfl | rfl | rfl | rfl | rfl | rfl
 ·exact tr0_ok
 ·exact tr1_ok
 ·exact tr2_ok
 ·exact tr3_ok
 ·exact tr4_ok
 ·exact tr5_ok
 ·exact tr6_ok
 ·exact tr7_ok
 ·exact tr8_ok
 ·exact tr9_ok
 ·exact tr10_ok
 ·exact tr11_ok
 ·exact tr12_ok
theorem trs_all:(trees.all fun U=>decide (sortK U∈trs.map (·.keys)))=true:=by decide +kernel
theorem chk_all {U:List Key} (hU:U∈trees) (mk:Nat->Nat):chkL ⟨sortK U,msOf mk 4 U 1,msOf mk 4 U 2⟩=true:=by
 have h:=of_decide_eq_true (List.all_eq_true.mp trs_all U hU)
 refine elEA (List.mem_map.mp h) fun t ht e=>?_
 refine elAA (trs_ok t ht) fun h1 h2 h3=>?_
 rw[e] at h1 h2 h3
 exact chkL_of (bd_good hU mk).len h1 h2 h3
theorem boards_ok:∀ U∈trees,∀ mk,∃ low,BdG ⟨sortK U,msOf mk 4 U 1,msOf mk 4 U 2⟩ low/\chkL ⟨sortK U,msOf mk 4 U 1,msOf mk 4 U 2⟩=true:=fun U hU mk=>⟨_,bd_good hU mk,chk_all hU mk⟩
theorem law_said:PySem.Challenge.rw_kt0059_01.wellSaid=true:=by
 delta OpenLaw.wellSaid
 repeat' with_reducible refine look_both ?_ ?_
 all_goals try (delta OpenRow.wellSaid OpenRow.partSaid looksOpen;repeat' with_reducible refine look_both ?_ ?_)
 all_goals decide +kernel
end
end Mine
open PySem.W.X
set_option maxRecDepth 100000 in
set_option maxHeartbeats 8000000 in
theorem PySem.Challenge.cw_kt0059_01_holds : PySem.Challenge.rw_kt0059_01.Holds := by
 w_on;refine holds_law Mine.law_said fun said=>?_
 refine holds_openX (q:=Mine.view) (loose:=Mine.loose) (XP:=XL Mine.view []) (N:=3666) Mine.left (fun s e=>xl_of s (Bool.and_eq_true_iff.mp e).1) XL.keeps (by rfl) (by rfl) (by rfl) (fun s e=>recFacts_of (Bool.and_eq_true_iff.mp e).2) (by rfl) (by first | assumption | decide +kernel) (by decide +kernel) ⟨rfl,rfl,rfl,rfl,rfl,by decide +kernel⟩ ?hw ?hc
 case hw=>w_witness2
 case hc =>
  k_fill
  intro w J5 J6 mg mb G y fa o pm cd doc dV kV ho hd hcd hD hmg hg args vals as L hpre hlay hrd hwl hlo
  have KX:(Mine.heap w.params).In J6.heap:=InK.keeps w _ _ (InK.of Mine.heap_keys w _ y) L.keeps
  refine Ground.open G ?_
  intro T B D TE TW
  wrow_args hpre hlay hrd hwl hlo
  clear hd ho hcd hD
  rename_i ns _ _ _ _ _ w4 w3 t its _ hL _ _ r0 hI _ hlen _
  have ok:(⟨PySem.Challenge.rw_kt0059_01.row.prog,w,Mine.view,looseW Mine.view Mine.loose,mg,mb,J6.heap,J6.gens,J6.os⟩:Mine.Wd).Ok:=⟨KX,topRead_of T⟩
  have hfa:fa=253:=by
   have e1:=mg_of KX T.g (show nsIn (Mine.heap w.params) mainGlobals (Str.ofString "law")=some (some (.ref 253)) by kernel_rfl!)
   have e2:=hmg.symm.trans e1
   cases e2
   rfl
  subst hfa
  cases r0 with
  | list e1 e2 e3 e4 =>
   refine Mine.elE (Mine.script_IsL L (by simp) hL) fun n hIs=>?_
   have hz:ns.length<=1000:=by omega
   have htop:=Mine.law_top (dr:=J6.drawn) (tk:=J6.toks) ok hz Mine.boards_ok hIs hI
   refine wpAny_mono htop (fun v s' ⟨q1,q2,q3,q4⟩=>?_) fun _ _ z=>z.elim
   subst q1
   exact⟨.inl ⟨_,.bool true,[],rfl,fun _=>rfl,.bool true,by wrow_post,fun _=>⟨List.nodup_nil,fun _ h=>nomatch h⟩⟩,OldK.of_keep q2,q3,AllBare.of_eq (q4.trans hg)⟩
