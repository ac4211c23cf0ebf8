import PyProof.Rows.All
import Wide.All
import OpenK.AllK
import Wide.FinOn
import Lean
import PySem.Challenge.RW_bf0028_01
set_option Elab.async false
set_option maxRecDepth 100000
set_option linter.all false
set_option maxHeartbeats 4000000
set_option genSizeOf false
set_option compiler.extract_closed false
namespace Mine
section
set_option tactic.hygienic false
theorem lx {a b c d e f:Int} (h:a<e∨a=e∧c<f) (k:e<b∨e=b∧f<d):a<b∨a=b∧c<d:=
 h.elim (fun h=>.inl (k.elim (Int.lt_trans h) fun k=>Int.lt_of_lt_of_le h (Int.le_of_eq k.1))) fun h=>k.imp (Int.lt_of_le_of_lt (Int.le_of_eq h.1)) fun k=>⟨h.1.trans k.1,Int.lt_trans h.2 k.2⟩
theorem ly {a b c d e f:Int} (h:e<b∨e=b∧f<d) (k:¬(a<b∨a=b∧c<d)):e<a∨e=a∧f<c:=
 have hb:=Int.not_lt.mp fun q=>k (.inl q)
 h.elim (fun h=>.inl (Int.lt_of_lt_of_le h hb)) fun h=>(Int.lt_or_eq_of_le hb).imp (Int.lt_of_le_of_lt (Int.le_of_eq h.1)) fun q=>⟨h.1.trans q,Int.lt_of_lt_of_le h.2 (Int.not_lt.mp fun r=>k (.inr ⟨q.symm,r⟩))⟩
theorem half {n b:Nat} (h:n / 2=b):n=2*b∨n=2*b+1:=by
 have e:=Nat.div_add_mod n 2
 rw [h] at e
 exact(Nat.mod_two_eq_zero_or_one n).imp (fun q=>by rw [q] at e;exact e.symm) fun q=>by rw [q] at e;exact e.symm
section
variable {a b c d e f g i:Nat}
theorem nt0: -1<0:=by decide
theorem nt1:0+1≤16777216:=by exact Nat.zero_lt_succ _
theorem nt2:0<0+1:=by exact Nat.lt_succ_self _
theorem nt3:0≤1:=by exact Nat.zero_le _
theorem nt4:0≤16777216:=by exact Nat.zero_le _
theorem nt5:1 - 0≤1:=by exact Nat.lt_succ_self _
theorem nt6:1 - 1≤1:=by exact Nat.zero_le _
theorem nt7:1≤1:=by exact Nat.lt_succ_self _
theorem nt8 {a:Int} {b:Nat} {c d:Int} {e:Nat}:a=(↑b:Int)→b≤1000→0≤c∧c≤a→0≤d∧d≤a→c=d+(↑e:Int)→(-9223372036854775808≤(↑e:Int)∧(↑e:Int)<9223372036854775808)∧-9223372036854775808≤c∧c<9223372036854775808:=fun h1 h2 h3 h4 h5=>have hc:c<9223372036854775808:=Int.lt_of_le_of_lt (Int.le_trans h3.2 (Int.le_of_eq h1)) (Int.lt_of_le_of_lt (Int.ofNat_le.mpr h2) (by decide));⟨⟨Int.le_trans (by decide) (Int.natCast_nonneg e),Int.lt_of_le_of_lt (Int.le_trans (Int.le_add_of_nonneg_left h4.1) (Int.le_of_eq h5.symm)) hc⟩,Int.le_trans (by decide) h3.1,hc⟩
theorem nt9 {a:Int} {b:Nat}:0≤a→0≤a+(↑b:Int):=by lia
theorem nt10 {a:Int} {b:Nat}:a<5→a=(↑b:Int)→b<5:=fun h1 h2=>Int.ofNat_lt.mp (Int.lt_of_le_of_lt (Int.le_of_eq h2.symm) h1)
theorem nt11 {a:Int} {b:Nat}:a<7→a=(↑b:Int)→b<7:=by lia
theorem nt12 {a:Int} {b c:Nat}:a<(↑b:Int)→a=(↑c:Int)→c<b:=by lia
theorem nt13 {a:Int} {b c d:Nat}:a=(↑b:Int)→c=d→d<b→b+1 - (d+1)<b+1 - d:=fun _ _ h=>Nat.sub_lt_sub_left (Nat.lt_succ_of_lt h) (Nat.lt_succ_self d)
theorem nt17 {a:Int}:0≤a→2+a=(↑(2+Int.toNat a):Int):=fun h=>congrArg (2 + ·) (Int.toNat_of_nonneg h).symm
theorem nt18 {a:Int}:0≤a→a=(↑(Int.toNat a):Int):=by lia
theorem nt19 {a:Int}:2≤2+Int.toNat a:=by exact Nat.le_add_right _ _
theorem nt20 {a:Int}:a<5→2+Int.toNat a≤6:=fun h=>Nat.add_le_add_left (Int.toNat_le.mpr (Int.le_of_lt_add_one h)) 2
theorem nt28:(2*a+1 - 1) / 2=a:=Nat.mul_div_cancel_left a (by decide)
theorem nt29:(↑(1+a):Int)=1+(↑a:Int):=by lia
theorem nt30:(↑a:Int)>1→1<a:=by intros;exact Int.ofNat_lt.mp ‹_›
theorem nt31:0<a→(a - 1) / 2<a:=fun h=>Nat.lt_of_le_of_lt (Nat.div_le_self _ 2) (Nat.sub_lt h Nat.one_pos)
theorem nt32:0<a→-(↑a:Int)≤-1:=by lia
theorem nt33:0<a→0<a+1:=by intros;exact Nat.zero_lt_succ _
theorem nt34:0<a→Int.toNat (-1+(↑a:Int))=a - 1:=fun _=>(congrArg Int.toNat (Int.add_comm (-1) a)).trans (Int.toNat_sub a 1)
theorem nt35:0<a→a=0→False:=by lia
theorem nt36:0<a→¬0=a:=by intros;exact Nat.ne_of_lt ‹_›
theorem nt37:0≤(↑a:Int):=by exact Int.natCast_nonneg _
theorem nt38:1<a→a<7→(↑(a - 2):Int)=(↑a:Int) - 2:=fun h _=>Int.ofNat_sub h
theorem nt39:1<a→a<7→(↑(a - 2):Int)=(↑a:Int) - 2→a - 2=0∨a - 2=1∨a - 2=2∨a - 2=3∨a - 2=4:=fun h1 h2 _=>(by decide:∀a,a<7→1<a→(a - 2=0∨a - 2=1∨a - 2=2∨a - 2=3∨a - 2=4)) a h2 h1
theorem nt40:1<a→a<7→a - 2<5:=fun h1 h2=>Nat.sub_lt_right_of_lt_add h1 h2
theorem nt41:1≤a→a+1 - 1=a - 1+1:=fun h=>(Nat.sub_add_cancel h).symm
theorem nt42:1≤a→a - 1≤a:=by intros;exact Nat.sub_le _ _
theorem nt43:1≤a→a=a - 1+1:=by lia
theorem nt44:1≤a→¬(↑(a - 1):Int)<0→max 0 (min (-1+(↑a:Int)) (↑a:Int))=max 0 (min (↑(a - 1):Int) (↑a:Int)):=fun h _=>congrArg (fun z=>max 0 (min z (a:Int))) ((Int.add_comm (-1) a).trans (Int.ofNat_sub h).symm)
theorem nt45:2*a+1≠2*a+1+1:=by lia
theorem nt46:2≤a→0<(↑a:Int):=by lia
theorem nt47:2≤a→a≤6→(↑(a - 1):Int)=(↑a:Int) - 1:=by lia
theorem nt48:2≤a→a≤6→(↑a:Int)≠0:=by lia
theorem nt49:a+1 - 1 - a=0:=by lia
theorem nt50:a+1<a+4∨a+4<a+1:=by lia
theorem nt51:a+1≤a+1:=by exact Nat.lt_succ_self _
theorem nt52:a+1≤a→False:=by intros;exact Nat.lt_irrefl _ ‹_›
theorem nt53:a+2<a+1∨a+1<a+2:=by lia
theorem nt54:a+2<a+3∨a+3<a+2:=by lia
theorem nt55:a+2<a+4∨a+4<a+2:= .inl (Nat.add_lt_add_left (by decide) a)
theorem nt56:a+2<a∨a<a+2:=by lia
theorem nt57:a+3<a+1∨a+1<a+3:=by lia
theorem nt58:a+3<a+4∨a+4<a+3:= .inl (Nat.lt_succ_self (a+3))
theorem nt59:a+3<a∨a<a+3:=by lia
theorem nt60:a - 1<a→0<a:=fun h=>Nat.zero_lt_of_lt h
theorem nt61:a<1→a=1→False:=by lia
theorem nt62:a<2→a=0∨a=1:=by lia
theorem nt63:a<5→a≤4:=by intros;exact Nat.le_of_lt_succ ‹_›
theorem nt64:a<6→a=0∨a=1∨a=2∨a=3∨a=4∨a=5:=fun h=>(by decide:∀a,a<6→(a=0∨a=1∨a=2∨a=3∨a=4∨a=5)) a h
theorem nt65:a<a+1:=by exact Nat.lt_succ_self _
theorem nt66:a<a+1∨a+1<a:=by lia
theorem nt67:a<a+4∨a+4<a:=by lia
theorem nt68:a=0→a+0≤0:=by intros;exact Nat.le_of_eq ‹_›
theorem nt69:a=0→a≤0:=by intros;exact Nat.le_of_eq ‹_›
theorem nt70:a=0∨a=1∨a=2∨a=3∨a=4∨5≤a:=(Nat.lt_or_ge a 5).elim (fun h=>(by decide:∀a,a<5→(a=0∨a=1∨a=2∨a=3∨a=4∨5≤a)) a h) fun h=>.inr (.inr (.inr (.inr (.inr h))))
theorem nt71:a≤0→a=0:=by lia
theorem nt72:a≤1→1 - (1 - a)=a:=fun h=>Nat.sub_sub_self h
theorem nt73:a≤1→1 - (↑a:Int)=(↑(1 - a):Int):=fun h=>(Int.ofNat_sub h).symm
theorem nt74:a≤1→1 - a≤1:=by intros;exact Nat.sub_le _ _
theorem nt75:a≤1→a=0∨a=1:=by lia
theorem nt76:a≤1→¬a+1+1+1>4:=by lia
theorem nt77:a≤10→a+1≤100:=by intros;exact Nat.lt_of_le_of_lt ‹_› (by decide)
theorem nt78:a≤10→a≤49:=by intros;exact Nat.le_trans ‹_› (by decide)
theorem nt79:a≤100→(↑a:Int)<9223372036854775808:=fun h=>Int.lt_of_le_of_lt (Int.ofNat_le.mpr h) (by decide)
theorem nt80:a≤100→a≤16777216:=by intros;exact Nat.le_trans ‹_› (by decide)
theorem nt81:a≤186→1+2*a<2000:=fun h=>Nat.lt_of_le_of_lt (Nat.add_le_add_left (Nat.mul_le_mul_left 2 h) 1) (by decide)
theorem nt82:a≤2000→a≤16777216:=by intros;exact Nat.le_trans ‹_› (by decide)
theorem nt83:a≤25→a≤1000:=by intros;exact Nat.le_trans ‹_› (by decide)
theorem nt84:a≤4000→a<16777216:=by intros;exact Nat.lt_of_le_of_lt ‹_› (by decide)
theorem nt85:a≤4000→a≤5000:=by intros;exact Nat.le_trans ‹_› (by decide)
theorem nt86:a≤50→a≤100:=by intros;exact Nat.le_trans ‹_› (by decide)
theorem nt87:a≤5000→a≤16777216:=by intros;exact Nat.le_trans ‹_› (by decide)
theorem nt88:a≤6→2≤a→(↑(a - 1):Int)=(↑a:Int) - 1:=fun _ h=>Int.ofNat_sub (Nat.le_of_succ_le h)
theorem nt89:a≤6→2≤a→a - 1<a:=fun _ h=>Nat.sub_one_lt_of_lt h
theorem nt90:a≤6→2≤a→a≤100:=by intros;exact Nat.le_trans ‹_› (by decide)
theorem nt91:a≤6→Int.toNat (↑a:Int)=a→(↑a:Int)≥0:=by intros;exact Int.natCast_nonneg _
theorem nt92:a≤6→a+1≤7:=by intros;exact Nat.lt_succ_of_le ‹_›
theorem nt93:a≤6→a=0∨a=1∨a=2∨a=3∨a=4∨a=5∨a=6:=fun h=>(by decide:∀a,a≤6→(a=0∨a=1∨a=2∨a=3∨a=4∨a=5∨a=6)) a h
theorem nt94:a≤6→a≤100:=by intros;exact Nat.le_trans ‹_› (by decide)
theorem nt95:a≤6→a≤1000:=by intros;exact Nat.le_trans ‹_› (by decide)
theorem nt96:a≤63→a≤100:=by intros;exact Nat.le_trans ‹_› (by decide)
theorem nt97:a≤8→0+100*(a+1+1)≤2000:=fun h=>Nat.le_trans (Nat.add_le_add_left (Nat.mul_le_mul_left 100 (Nat.add_le_add_right h 2)) 0) (by decide)
theorem nt98:¬(↑(a - 1):Int)<0:=by lia
theorem nt99:¬0<a→a=0:=by lia
theorem nt100 {a b:Int} {c:Nat}:0≤a∧a≤b→a≤b+(↑c:Int):=fun h=>Int.le_trans h.2 (Int.le_add_of_nonneg_right (Int.natCast_nonneg c))
theorem nt103 {a b:Int}:¬(a<a∨a=a∧b<b):=by lia
theorem nt107 {a b:Nat} {c d:Int}:2*a+1+1<b→¬(c<c∨c=c∧d<d):=fun _ k=>k.elim (Int.lt_irrefl c) fun q=>Int.lt_irrefl d q.2
theorem nt108 {a b:Nat} {c d:Int}:2*a+1<b→¬(c<c∨c=c∧d<d):=by lia
theorem nt109:(↑a:Int)=(↑b:Int)→a=b:=by intros;exact Int.ofNat_inj.mp ‹_›
theorem nt110:(↑a:Int)=(↑b:Int) ↔ a=b:=Int.ofNat_inj
theorem nt111:0<a→a=b→0<b:=by lia
theorem nt114:a+1<b→¬a+1+1<b→a+1<b:=by intros;assumption
theorem nt115:a+1≤b+1→a≤b:=by intros;exact Nat.le_of_lt_succ ‹_›
theorem nt116:a+1≤b→b=b - 1+1:=by lia
theorem nt117:a+15<b→a+1+10<b:=fun h=>Nat.lt_of_le_of_lt (Nat.add_le_add_left (by decide:11≤15) a) h
theorem nt118:a+16<b→a<b:=by lia
theorem nt119:a+2*b<2000→a≤4000:=by lia
theorem nt120:a+3<b→a+1<b:=by lia
theorem nt121:a+3<b→a+2<b:=by intros;exact Nat.le_of_lt ‹_›
theorem nt122:a+3<b→a+3<b:=by intros;assumption
theorem nt123:a+3<b→a<b:=by lia
theorem nt124:a+b≤100→a+b≤16777216:=by intros;exact Nat.le_trans ‹_› (by decide)
theorem nt125:a - b=0→b≤a→b=a:=fun h1 h2=>Nat.le_antisymm h2 (Nat.le_of_sub_eq_zero h1)
theorem nt126:a<0∨a=0∧b<0→False:=by lia
theorem nt128:a<900→b≤a+1→b≤1000:=fun h1 h2=>Nat.le_trans h2 (Nat.le_trans h1 (by decide))
theorem nt129:a<a∨a=a∧b<b→False:=by lia
theorem nt130:a<b+1→a≥b→a=b:=by lia
theorem nt131:a<b+1→b+1 - 1 - a=b - 1 - a+1→a<b:=fun _ h=>Nat.lt_of_sub_eq_succ h
theorem nt132:a<b+1→¬a<b→a=b:=fun h1 h2=>Nat.le_antisymm (Nat.le_of_lt_succ h1) (Nat.le_of_not_lt h2)
theorem nt133:a<b+1→¬a=b→b+1 - 1 - a=b - 1 - a+1:=fun h1 h2=>(Nat.sub_add_cancel (Nat.sub_pos_of_lt (Nat.lt_of_le_of_ne (Nat.le_of_lt_succ h1) h2))).symm.trans (congrArg Nat.succ (Nat.sub_right_comm b a 1))
theorem nt134:a<b / 2→2*a+1<b:=fun h=>Nat.le_trans (Nat.mul_le_mul_left 2 h) (Nat.mul_div_le b 2)
theorem nt135:a<b→(↑a:Int)<(↑b:Int):=by intros;exact Int.ofNat_lt.mpr ‹_›
theorem nt136:a<b→0≤(↑a:Int):=by intros;exact Int.natCast_nonneg _
theorem nt137:a<b→1*a+0<b:=fun h=>Nat.lt_of_le_of_lt (Nat.le_of_eq (Nat.one_mul a)) h
theorem nt138:a<b→a+1+(b - a - 1)=b→b - a=b - a - 1+1:=fun h _=>(Nat.sub_add_cancel (Nat.sub_pos_of_lt h)).symm
theorem nt139:a<b→a+1≤b:=by intros;assumption
theorem nt140:a<b→a<b+1:=by intros;exact Nat.lt_succ_of_lt ‹_›
theorem nt141:a<b→a<b+1∨b+1<a:=by omega
theorem nt142:a<b→a<b+3∨b+3<a:=fun h=>.inl (Nat.lt_of_lt_of_le h (Nat.le_add_right b 3))
theorem nt143:a<b→a<b+4∨b+4<a:=fun h=>.inl (Nat.lt_of_lt_of_le h (Nat.le_add_right b 4))
theorem nt144:a<b→a<b∨b<a:=by omega
theorem nt145:a<b→a=b→False:=by lia
theorem nt146:a<b→a≤b:=by intros;exact Nat.le_of_lt ‹_›
theorem nt147:a<b→b - (a+1)<b - a:=fun h=>Nat.sub_lt_sub_left h (Nat.lt_succ_self a)
theorem nt148:a<b→b - 1 - a<b:=fun h=>Nat.lt_of_le_of_lt (Nat.sub_le _ a) (Nat.sub_lt (Nat.zero_lt_of_lt h) Nat.one_pos)
theorem nt149:a<b→b≠a:=by intros;exact Nat.ne_of_gt ‹_›
theorem nt150:a<b→b≤6→(b - 1)*5≤25:=fun _ h=>Nat.mul_le_mul_right 5 (Nat.sub_le_sub_right h 1)
theorem nt151:a<b→b≤a→False:=by intros;exact absurd ‹_› (Nat.not_lt_of_le ‹_›)
theorem nt152:a<b→¬a=b:=by intros;exact Nat.ne_of_lt ‹_›
theorem nt153:a<b∨a=b∧b<a→b<a→False:=by lia
theorem nt154:a<b∨b<a→a≠b:=by lia
theorem nt155:a=b+1→b+1=a:=by lia
theorem nt156:a=b→(2*b+1+1 - 1) / 2=b:=fun _=>Nat.mul_add_div (by decide:2>0) b 1
theorem nt157:a=b→a≤b:=by intros;exact Nat.le_of_eq ‹_›
theorem nt158:a=b→b<1000→a≤4000:=by lia
theorem nt159:a=b→b<a→False:=by lia
theorem nt160:a=b→b≤6→2≤b→b - 1<b:=fun _ _ h=>Nat.sub_one_lt_of_lt h
theorem nt161:a≠b→a<b+1→a<b:=by lia
theorem nt164:a≤50→1≤a→b=a→1≤b:=by lia
theorem nt165:a≤50→1≤a→b=a→a≤100:=by intros;exact Nat.le_trans ‹_› (by decide)
theorem nt166:a≤50→1≤a→b=a→b≤100:=by lia
theorem nt170:a≤6→b+1≤a→b≤50:=by lia
theorem nt171:a≤6→b<a→1+b<8:=by lia
theorem nt172:a≤6→b<a→b<6:=by intros;exact Nat.lt_of_lt_of_le ‹_› ‹_›
theorem nt173:a≤6→b<a→b≤6:=by lia
theorem nt174:a≤6→b=a→b≤100:=by lia
theorem nt175:a≤6→b≤a→b≤10:=by lia
theorem nt176:a≤6→b≤a→b≤100:=by lia
theorem nt177:a≤6→b≤a→b≤16777216:=by lia
theorem nt178:a≤6→b≤a→b≤50:=by lia
theorem nt179:a≤900→b=a→a≤16777216:=by intros;exact Nat.le_trans ‹_› (by decide)
theorem nt180:a≤b*4→a / 4≤b:=fun h=>Nat.div_le_of_le_mul (Nat.mul_comm b 4▸h)
theorem nt181:a≤b+0→a≤b:=by intros;assumption
theorem nt182:a≤b+1→a≤b+1:=by intros;assumption
theorem nt183:a≤b+1→¬a=b+1→a≤b:=by lia
theorem nt184:a≤b - 1→0<b→a+1≤b:=fun h1 h2=>Nat.lt_of_le_of_lt h1 (Nat.sub_lt h2 Nat.one_pos)
theorem nt185:a≤b→a+1≤b+1:=by intros;exact Nat.lt_succ_of_le ‹_›
theorem nt187:a≤b→a≤b+1:=by intros;exact Nat.le_succ_of_le ‹_›
theorem nt188:a≤b→b<3000→a≤4000:=by lia
theorem nt189:a≤b→b≤a→a=b:=by intros;exact Nat.le_antisymm ‹_› ‹_›
theorem nt190:a≤b→¬a<b→a=b:=by lia
theorem nt191:¬a+1+b=a:=by lia
theorem nt192:¬a<b / 2→b≤2*a+1:=fun h=>Nat.le_of_lt_succ (Nat.lt_of_lt_of_eq ((Nat.div_lt_iff_lt_mul (by decide)).mp (Nat.lt_succ_of_le (Nat.le_of_not_lt h))) (Nat.mul_comm (a+1) 2))
theorem nt193:¬a<b→a - b=0→a=b:=fun h1 h2=>Nat.le_antisymm (Nat.le_of_sub_eq_zero h2) (Nat.le_of_not_lt h1)
theorem nt194:¬a<b→b≤a:=by intros;exact Nat.le_of_not_lt ‹_›
theorem nt195:¬a=b→b≠a:=by lia
theorem nt196:¬a=b→¬(↑a:Int)=(↑b:Int):=by lia
theorem nt197:¬a=b→¬a<b→¬a<b+1:=by lia
theorem nt198 {a b c:Int}:a+b+c=a+(b+c):=by lia
theorem nt200:(↑a:Int)+(↑b:Int)<(↑c:Int) ↔ a+b<c:=Int.ofNat_lt (n:=a+b) (m:=c)
theorem nt201:(↑a:Int)≤(↑b:Int)+(↑c:Int) ↔ a≤b+c:=Int.ofNat_le (m:=a) (n:=b+c)
theorem nt202:1≤a→a=b+1→c - 1=b+1→a - 1=b:=fun _ h _=>congrArg Nat.pred h
theorem nt203:a+(b+1)<c→a+1+b<c:=by lia
theorem nt204:a+(b+1)<c→a<c:=by lia
theorem nt205:a+(b+3)<c→a+3+b<c:=fun h=>Nat.lt_of_le_of_lt (Nat.le_of_eq (Nat.add_right_comm a 3 b)) h
theorem nt206:a+(b+4)<c→a+1+b<c:=fun h=>Nat.lt_of_le_of_lt (Nat.le_trans (Nat.le_of_eq (Nat.add_right_comm a 1 b)) (Nat.add_le_add_left (by decide:1≤4) (a+b))) h
theorem nt209:a+1=b→a+2*c<b+2*c:=by lia
theorem nt210:a+1=b→a+c+1=b+c:=by lia
theorem nt211:a+1=b→c+a+1≤c+b:=by lia
theorem nt212:a+1≤b→a+c+1≤b+c:=by lia
theorem nt213:a+1≤b→c+a+1≤c+b:=by intros;exact Nat.add_le_add_left ‹_› _
theorem nt214:a+100*(b+1)≤2000→c≤100→a+c+100*b≤2000:=fun h1 h2=>Nat.le_trans (Nat.le_trans (Nat.le_of_eq (Nat.add_right_comm a c (100*b))) (Nat.le_trans (Nat.add_le_add_left h2 _) (Nat.le_of_eq (Nat.add_assoc a (100*b) 100)))) h1
theorem nt215:a+100*(b+1)≤2000→c≤100→a+c≤16777216:=fun h1 h2=>Nat.le_trans (Nat.add_le_add (Nat.le_trans (Nat.le_add_right a _) h1) h2) (by decide)
theorem nt216:a+2*b<2000→c+1=a→c+2*b<2000:=fun h e=>Nat.lt_of_le_of_lt (Nat.add_le_add_right (Nat.le_trans (Nat.le_succ c) (Nat.le_of_eq e)) (2*b)) h
theorem nt217:a+2*b≤c→c<2000→a≤4000:=fun h1 h2=>Nat.le_trans (Nat.le_trans (Nat.le_add_right a (2*b)) h1) (Nat.le_trans (Nat.le_of_lt h2) (by decide))
theorem nt218:a+b<c→(↑a:Int)+(↑b:Int)<(↑c:Int):=by intros;exact Int.ofNat_lt.mpr ‹_›
theorem nt219:a+b<c→a+b≤c:=by intros;exact Nat.le_of_lt ‹_›
theorem nt220:a+b<c→b+1≤c:=fun h=>Nat.lt_of_le_of_lt (Nat.le_add_left b a) h
theorem nt221:a - b=c+1→b<a→a - (b+1)=c:=fun h _=>congrArg Nat.pred h
theorem nt222:a - b=c+1→b<a→a - b=a - b - 1+1:=fun _ h=>(Nat.sub_add_cancel (Nat.sub_pos_of_lt h)).symm
theorem nt223:a - b=c+1→b≤a→b<a:=fun h _=>Nat.lt_of_sub_eq_succ h
theorem nt225:a<b - 1→c<a→c<b - 1:=by intros;exact Nat.lt_trans ‹_› ‹_›
theorem nt226:a<b→a+1+(b - a - 1)=b→b - a=c+1→b - (a+1)=c:=fun _ _ h=>congrArg Nat.pred h
theorem nt227:a<b→a=c→a<b:=by intros;assumption
theorem nt228:a<b→b<c→a<c:=by intros;exact Nat.lt_trans ‹_› ‹_›
theorem nt229:a<b→b=c→a<c:=by lia
theorem nt231:a<b→b≤a→c≤a:=by intros;exact absurd ‹_› (Nat.not_lt_of_le ‹_›)
theorem nt232:a<b→b≤c→a<c:=by intros;exact Nat.lt_of_lt_of_le ‹_› ‹_›
theorem nt233:a<b→c+1+(b - a - 1)=b→c=a:=fun h1 h2=>Nat.succ.inj (Nat.add_right_cancel (h2.trans (Nat.add_sub_of_le h1).symm))
theorem nt234:a<b→c - 1=a→a+1≤b:=by intros;assumption
theorem nt235:a<b→c<a→c<b:=by intros;exact Nat.lt_trans ‹_› ‹_›
theorem nt236:a<b→c<a→c≠b:=by lia
theorem nt237:a<b→c=b→a<c:=by lia
theorem nt238:a<b→c≤b→c - 1≤b - 1:=fun _ h=>Nat.sub_le_sub_right h 1
theorem nt239:a<b∧c<b→a<b∨a=b∧c<0:=fun h=>.inl h.1
theorem nt240:a=0→b=0→b≤a+c:=by lia
theorem nt241:a=b+2*c→a<2000→b+2*c<2000:=fun h1 h2=>h1▸h2
theorem nt242:a=b+c→a=c+b:=by lia
theorem nt243:a=b→(↑b:Int)<(↑c:Int)→b<c:=by intros;exact Int.ofNat_lt.mp ‹_›
theorem nt244:a=b→a<c→c≠b:=by lia
theorem nt245:a=b→a<c→¬c=b:=by lia
theorem nt246:a=b→a=c+1→c+1=b:=by lia
theorem nt247:a=b→b<1000→c+1=b→c<2000:=fun _ h1 h2=>Nat.lt_trans (Nat.lt_of_lt_of_eq (Nat.lt_succ_self c) h2) (Nat.lt_trans h1 (by decide))
theorem nt248:a=b→b<c→¬(↑b:Int)<(↑c:Int)→False:=by lia
theorem nt249:a=b→c<a→c≠b:=by lia
theorem nt250:a=b→c<b+1→a<c→False:=by lia
theorem nt251:a=b→c<b+1→¬c<b→c=b:=by lia
theorem nt252:a=b→c<b→c<a:=fun h1 h2=>Nat.lt_of_lt_of_eq h2 h1.symm
theorem nt253:a=b→c<b→¬c=a:=by lia
theorem nt254:a=b→c<b→¬c=b:=by intros;exact Nat.ne_of_lt ‹_›
theorem nt255:a=b→c=b→(↑(b - 1):Int)=(↑b:Int) - 1→b - 1<a:=fun h _ k=>Nat.lt_of_lt_of_eq (Int.ofNat_lt.mp (Int.lt_of_le_of_lt (Int.le_of_eq k) (Int.sub_lt_self (b:Int) (by decide)))) h.symm
theorem nt256:a=b→c=b→0<2*b+1:=by intros;exact Nat.zero_lt_succ _
theorem nt257:a=b→c=b→0<2*b+1+1:=by intros;exact Nat.zero_lt_succ _
theorem nt258:a=b→¬c<b→b≤c:=by intros;exact Nat.le_of_not_lt ‹_›
theorem nt259:a=b→¬c<b→c - b=0→c=b:=fun _ h1 h2=>Nat.le_antisymm (Nat.le_of_sub_eq_zero h2) (Nat.le_of_not_lt h1)
theorem nt260:a≠0→b<c - 1→a<b→¬0=a:=by lia
theorem nt261:a≠b→c=a∧c=b→False:=by lia
theorem nt262:a≤10→b+(c+1)=a+1→b≤100:=by lia
theorem nt263:a≤10→b≤10→c≤12*7→c+a+b≤200:=fun h1 h2 h3=>Nat.le_trans (Nat.add_le_add (Nat.add_le_add h3 h1) h2) (by decide)
theorem nt264:a≤2*b+1→0<c→(c - 1) / 2=b→c<a→False:=by intro h1 h2 h3 h4;cases c with | zero=>exact Nat.lt_irrefl _ h2 | succ n=>exact Nat.lt_irrefl _ (Nat.lt_of_lt_of_le h4 (Nat.le_trans h1 (Nat.succ_le_succ (h3▸Nat.mul_div_le n 2))))
theorem nt265:a≤50→1≤a→b=a→c=a→(↑(a - 1):Int)=(↑a:Int) - 1:=fun _ h _ _=>Int.ofNat_sub h
theorem nt266:a≤50→1≤a→b=a→c=a→(↑(a - 1):Int)=(↑a:Int) - 1→a - 1≤1000:=fun h _ _ _ _=>Nat.le_trans (Nat.sub_le a 1) (Nat.le_trans h (by decide))
theorem nt267:a≤50→1≤a→b=a→c=a→(↑(a - 1):Int)=(↑a:Int) - 1→c≤100:=fun h _ _ k _=>Nat.le_trans (Nat.le_of_eq k) (Nat.le_trans h (by decide))
theorem nt268:a≤50→b+(c+1)=a→b≤100:=fun h1 h2=>Nat.le_trans (Nat.le_add_right b (c+1)) (Nat.le_trans (Nat.le_of_eq h2) (Nat.le_trans h1 (by decide)))
theorem nt269:a≤6→b<a→c=b→b≤6:=by lia
theorem nt270:a≤6→b=a→c=a→c≤100:=by lia
theorem nt271:a≤6→b≤a→c+1≤a→b+c≤100:=fun h1 h2 h3=>Nat.le_trans (Nat.add_le_add (Nat.le_trans h2 h1) (Nat.le_trans (Nat.le_of_succ_le h3) h1)) (by decide)
theorem nt272:a≤6→b≤a→c+1≤a→b+c≤50:=by lia
theorem nt273:a≤6→b≤a→c≤a→b+c≤12:=fun h1 h2 h3=>Nat.add_le_add (Nat.le_trans h2 h1) (Nat.le_trans h3 h1)
theorem nt274:a≤b+c→a≤c+b:=by lia
theorem nt275:a≤b→(↑a:Int)≤(↑b:Int)+(↑c:Int):=by lia
theorem nt276:a≤b→a≤b+c:=by lia
theorem nt277:a≤b→a≤c+b:=fun h=>Nat.le_trans h (Nat.le_add_left b c)
theorem nt278:a≤b→c+a≤b+c:=by lia
theorem nt279:a≤b→c≤0+a→c≤0+b:=by lia
theorem nt280:a≤b→c≤a+0→c≤b:=by intros;exact Nat.le_trans ‹_› ‹_›
theorem nt281:a≤b→c≤a→c≤b:=by intros;exact Nat.le_trans ‹_› ‹_›
theorem nt283:¬a+b<c→c≤a+b:=by intros;exact Nat.le_of_not_lt ‹_›
theorem nt284:¬a+b<c→¬(↑a:Int)+(↑b:Int)<(↑c:Int):=by lia
theorem nt285:¬a<b→a≤c→b≠c→b<c:=by lia
theorem nt286:¬a<b→b=c→c≤a:=by lia
theorem nt287:¬a≤b+c→b+c<a:=by intros;exact Nat.lt_of_not_le ‹_›
theorem nt288 {a b c d:Int} {e f g i:Nat}:¬(a<b∨a=b∧c<d)→e<f→f≤e→(↑e:Int)=(↑f:Int)∧g<i:=by intros;exact absurd ‹_› (Nat.not_lt_of_le ‹_›)
theorem nt289 {a b c d:Int}:a<b∨a=b∧c<d→¬(b<a∨b=a∧d<c):=fun h k=>(lx h k).elim (Int.lt_irrefl _) fun q=>Int.lt_irrefl _ q.2
theorem nt290:(↑a:Int)+(↑b:Int)+(↑c:Int)<(↑d:Int) ↔ a+b+c<d:=Int.ofNat_lt (n:=a+b+c) (m:=d)
theorem nt291:2*a+1<b→c=a→d=a→¬2*a+1+1<b→2*a+1+1<b→False:=by intros;contradiction
theorem nt292:a+2*b≤c→d+1≤b→a+1+2*d≤c:=fun h1 h2=>Nat.le_trans (Nat.le_trans (Nat.le_trans (Nat.le_of_eq (Nat.add_right_comm a 1 (2*d))) (Nat.le_succ _)) (Nat.add_le_add_left (Nat.mul_le_mul_left 2 h2) a)) h1
theorem nt293:a+b≤c→a+(b+d)≤c+d:=by lia
theorem nt294:a+b≤c→d<a→d<c:=fun h1 h2=>Nat.lt_of_lt_of_le h2 (Nat.le_trans (Nat.le_add_right a b) h1)
theorem nt295:a+b≤c→d≤a→d+b≤c:=fun h1 h2=>Nat.le_trans (Nat.add_le_add_right h2 b) h1
theorem nt296:a - b=c+1→b<a→a - b=d+1→a - (b+1)=c:=fun h _ _=>congrArg Nat.pred h
theorem nt297:a - b=c+1→b<a→a - b=d+1→a - (b+1)=d:=fun _ _ h=>congrArg Nat.pred h
theorem nt298:a - b=c+1→b<a→a - b=d+1→b+1+d=a:=fun _ h2 h3=>(Nat.succ_add b d).trans ((congrArg (b + ·) h3.symm).trans (Nat.add_sub_of_le (Nat.le_of_lt h2)))
theorem nt299:a<b+1∨a=b+1∧c<0→a<d∧c<d→a<b∨a=b∧c<d:=fun h k=>h.elim (fun q=>(Nat.lt_or_eq_of_le (Nat.le_of_lt_succ q)).imp id fun e=>⟨e,k.2⟩) fun q=>absurd q.2 (Nat.not_lt_zero _)
theorem nt300:a<b→c=b→d=b→a<d:=fun h _ k=>Nat.lt_of_lt_of_eq h k.symm
theorem nt301:a<b∨a=b∧c<d+1→¬(a<b∨a=b∧c<d)→a=b∧c=d:=fun h k=>h.elim (fun q=>(k (.inl q)).elim) fun q=>⟨q.1,Nat.le_antisymm (Nat.le_of_lt_succ q.2) (Nat.le_of_not_lt fun r=>k (.inr ⟨q.1,r⟩))⟩
theorem nt302:a<b∨a=b∧c<d→a<b+1∨a=b+1∧c<0:=fun h=>.inl (Nat.lt_succ_of_le (h.elim Nat.le_of_lt fun q=>Nat.le_of_eq q.1))
theorem nt303:a<b∨a=b∧c<d→a<b∨a=b∧c<d+1:=fun h=>h.imp id fun q=>⟨q.1,Nat.lt_succ_of_lt q.2⟩
theorem nt304:a=b+c+d→a≤200→c<1000:=fun h1 h2=>Nat.lt_of_le_of_lt (Nat.le_trans (Nat.le_add_left c b) (Nat.le_add_right (b+c) d)) (Nat.lt_of_le_of_lt (Nat.le_trans (Nat.le_of_eq h1.symm) h2) (by decide))
theorem nt305:a=b+c+d→a≤200→c≤4000:=fun h1 h2=>Nat.le_trans (Nat.le_trans (Nat.le_add_left c b) (Nat.le_add_right (b+c) d)) (Nat.le_trans (Nat.le_of_eq h1.symm) (Nat.le_trans h2 (by decide)))
theorem nt306:a=b+c+d→a≤200→d<1000:=by lia
theorem nt307:a=b+c+d→a≤200→d≤4000:=by lia
theorem nt308:a=b+c→c≤d→a≤b+d:=by lia
theorem nt309:a=b→c=b→(↑(b - 1):Int)=(↑b:Int) - 1→d<b→d<a:=fun h _ _ k=>Nat.lt_of_lt_of_eq k h.symm
theorem nt310:a=b→c=b→0<d→(d - 1) / 2=b→d=2*b+1∨d=2*b+1+1:=by intro _ _ h3 h4;cases d with | zero=>exact absurd h3 (Nat.lt_irrefl _) | succ n=>exact(half h4).imp (congrArg Nat.succ) (congrArg Nat.succ)
theorem nt311:a=b∧c=d→a<b∨a=b∧c<d+1:=fun h=>.inr ⟨h.1,Nat.lt_succ_of_le (Nat.le_of_eq h.2)⟩
theorem nt312:a=b∧c=d∨a=d∧c=b→c=b∧a=d∨c=d∧a=b:=fun h=>h.symm.imp And.symm And.symm
theorem nt313:a≠b→c=a→d≠b→d≠a→c≠b:=by lia
theorem nt314:a≤6→b<2000→c≤a→d<c→b+d<3000:=fun h1 h2 h3 h4=>Nat.lt_of_lt_of_le (Nat.add_lt_add h2 (Nat.lt_of_lt_of_le h4 (Nat.le_trans h3 h1))) (by decide)
theorem nt315:a≤b+(c+d)→a≤b+c+d:=fun h=>Nat.add_assoc b c d▸h
theorem nt316:a≤b+c→b<d→a=d+c→False:=fun h1 h2 h3=>Nat.lt_irrefl _ (Nat.lt_of_le_of_lt (Nat.le_trans (Nat.le_of_eq h3.symm) h1) (Nat.add_lt_add_right h2 c))
theorem nt317:a≤b+c→d≤a→d≤b+c:=by intros;exact Nat.le_trans ‹_› ‹_›
theorem nt318:a≤b+c→¬0<b→c≤d→a≤0+d:=fun h1 h2 h3=>Nat.le_trans h1 (Nat.add_le_add (Nat.le_of_not_lt h2) h3)
theorem nt319:a≤b→c+b<d→c+a<d:=fun h1 h2=>Nat.lt_of_le_of_lt (Nat.add_le_add_left h1 c) h2
theorem nt320:a≤b→c+d<a→c+d≠b:=by lia
theorem nt321:a≤b→c+d≤a→c=b→a=b:=fun h1 h2 h3=>Nat.le_antisymm h1 (Nat.le_trans (Nat.le_of_eq h3.symm) (Nat.le_trans (Nat.le_add_right c d) h2))
theorem nt322:a≤b→c+d≤a→¬c<b→c=b:=fun h1 h2 h3=>Nat.le_antisymm (Nat.le_trans (Nat.le_add_right c d) (Nat.le_trans h2 h1)) (Nat.le_of_not_lt h3)
theorem nt323:a≤b→c≤a+d→c≤b+d:=by lia
theorem nt324:a≤b→c≤a→a≤(d - 1)*5→(d - 1)*5≤25→c≤b∧c≤25:=fun h1 h2 h3 h4=>⟨Nat.le_trans h2 h1,Nat.le_trans h2 (Nat.le_trans h3 h4)⟩
theorem nt325:a≤b→c≤a→c≤b+d:=by lia
theorem nt326:a≤b→c≤d+a→c≤d+b:=fun h1 h2=>Nat.le_trans h2 (Nat.add_le_add_left h1 d)
theorem nt327:a≤b→c≤d→c+a≤b+d:=by lia
theorem nt328:¬(a=b∧c=d∨a=d∧c=b)→¬(c=b∧a=d∨c=d∧a=b):=fun h k=>h (k.symm.imp And.symm And.symm)
theorem nt329:a+1=b→c+2*d≤a+2*e→c+2*d<b+2*e:=fun h1 h2=>Nat.lt_of_le_of_lt h2 (Nat.add_lt_add_right (Nat.lt_of_lt_of_eq (Nat.lt_succ_self a) h1) _)
theorem nt330:a+1=b→c≤a+d→e+c+1≤e+1*(d+1)+b:=by lia
theorem nt331:a<b→b≤a→c≤a+d+e:=by intros;exact absurd ‹_› (Nat.not_lt_of_le ‹_›)
theorem nt333:a<b→c<b→d=a∧e=c→d<b∧e<b:=fun h1 h2 h3=>⟨Nat.lt_of_le_of_lt (Nat.le_of_eq h3.1) h1,Nat.lt_of_le_of_lt (Nat.le_of_eq h3.2) h2⟩
theorem nt334:a=b+2*c→a<2000→d+2*e<b+2*c→d+2*e<2000:=fun h1 h2 h3=>Nat.lt_trans h3 (h1▸h2)
theorem nt335:a=b+c→d≤b→e≤d→e≤b:=by intros;exact Nat.le_trans ‹_› ‹_›
theorem nt336:a=b - c→c<b→d=c→e<b→d<e→b - e<a:=fun h1 h2 h3 _ h5=>Nat.lt_of_lt_of_eq (Nat.sub_lt_sub_left h2 (Nat.lt_of_le_of_lt (Nat.le_of_eq h3.symm) h5)) h1.symm
theorem nt337:a=b→c<a→d=c+e→b≤c→False:=by lia
theorem nt338:a=b→c=b→(↑(b - 1):Int)=(↑b:Int) - 1→d<b - 1→e=d→d+1<b:=fun _ _ _ h _=>Nat.add_lt_of_lt_sub h
theorem nt339:a=b→c=b→(↑(b - 1):Int)=(↑b:Int) - 1→d<b - 1→e=d→d<b:=fun _ _ _ h _=>Nat.lt_of_lt_of_le h (Nat.sub_le b 1)
theorem nt340:a=b→c=b→a<c→d<e:=by lia
theorem nt341:a=b→c=d→c<e→a<d→e≠b:=fun h1 h2 h3 h4 q=>Nat.lt_irrefl a (Nat.lt_of_lt_of_eq (Nat.lt_trans (Nat.lt_of_lt_of_eq h4 h2.symm) h3) (q.trans h1.symm))
theorem nt342:a≤50→1≤a→b=a→c=a→(↑(a - 1):Int)=(↑a:Int) - 1→d=a - 1→e=a - 1→0<b:=fun _ h2 h3 _ _ _ _=>Nat.lt_of_lt_of_eq h2 h3.symm
theorem nt343:a≤6→b<a→c+d≤5*(a - e)→c+d+1≤31:=fun h1 _ h3=>Nat.succ_le_succ (Nat.le_trans h3 (Nat.mul_le_mul_left 5 (Nat.le_trans (Nat.sub_le a e) h1)))
theorem nt344:a≤b+c→a>d+e→d+e≤b+c:=fun h1 h2=>Nat.le_trans (Nat.le_of_lt h2) h1
theorem nt345:a≤b→c≤a+d→e=c→e+0≤b+d:=fun h1 h2 h3=>Nat.le_trans (Nat.le_of_eq h3) (Nat.le_trans h2 (Nat.add_le_add_right h1 d))
theorem nt346:a≤b→c≤a+d→e=c→e≤b+d:=by lia
theorem nt347 {a b c d e f:Int}:¬(a<b∨a=b∧c<d)→e<b∨e=b∧f<d→¬(a<e∨a=e∧c<f):=fun h1 h2 h3=>h1 (lx h3 h2)
theorem nt348 {a b c d e f:Int}:¬(a<b∨a=b∧c<d)→¬(e<a∨e=a∧f<c)→¬(e<b∨e=b∧f<d):=fun h1 h2 h3=>h2 (ly h3 h1)
theorem nt349:a+b+1≤c+d→a+e+b+f<e+c+f+d:=by lia
theorem nt350:a+b≤c→d=c+e→f≤a→f+b≤c:=fun h1 _ h3=>Nat.le_trans (Nat.add_le_add_right h3 b) h1
theorem nt351:a+b≤c→d≤a+b→e≤f→f≤d→e≤c:=fun h1 h2 h3 h4=>Nat.le_trans (Nat.le_trans h3 h4) (Nat.le_trans h2 h1)
theorem nt352:a=b+c+d→a≤200→e+f+c<a→e+f+c≤200:=fun _ h k=>Nat.le_trans (Nat.le_of_lt k) h
theorem nt353:a=b+c→d=a+e→f≤a→b+c<f→False:=by lia
theorem nt356:a≤b+c→¬d+e<b→c≤f→a≤d+e+f:=fun h1 h2 h3=>Nat.le_trans h1 (Nat.add_le_add (Nat.le_of_not_lt h2) h3)
theorem nt357:a+b≤c→d=c+e→f≤a→c≤g→f+b≤g:=fun h1 _ h3 h4=>Nat.le_trans (Nat.add_le_add_right h3 b) (Nat.le_trans h1 h4)
theorem nt358:a≤b→c≤d→e≤c+f→g≤e+a→g≤d+f+b:=fun h1 h2 h3 h4=>Nat.le_trans h4 (Nat.add_le_add (Nat.le_trans h3 (Nat.add_le_add_right h2 f)) h1)
end
end
section
open PySem PySem.W PyProof.Rows
noncomputable abbrev PM:=Addr→Option Obj
noncomputable abbrev OP:=Obj→Prop
inductive AV where
 | any
 | int (i:Int)
 | val (v:Value)
noncomputable def AV.ok:AV→Value→Prop
 | .any,_=>True
 | .int i,v=>∃t,v = .int i t
 | .val v',v=>v=v'
noncomputable def AV.inn:AV→Option Value→Prop
 | .any,_=>True
 | .int i,ov=>∃t,ov=some (.int i t)
 | .val v',ov=>ov=some v'
theorem AV.inn_of_ok {a:AV} {v:Value} (h:a.ok v):a.inn (some v):=by
 cases a with
 | any=>trivial
 | int i=>obtain⟨t,rfl⟩:=h;exact⟨t,rfl⟩
 | val v'=>exact congrArg some h
noncomputable def NsO (m:Str→Option Value) (o:Obj):Prop:=∃es ep,o.data = .dict es ep∧StrKeys es∧∀name,nsFind es name=m name
noncomputable def Fits (nms:List Str) (avs:List AV) (m:Str→Option Value):Prop:=∀(i:Nat) x av,nms[i]?=some x→avs[i]?=some av→av.inn (m x)
noncomputable def FrameO (nms:List Str) (avs:List AV):OP:=fun o=>∃m,NsO m o∧Fits nms avs m
noncomputable def CellO (av:AV):OP:=fun o=>∃v,o.data = .cell (some v)∧av.ok v
theorem ns_iff {h:Heap} {a:Addr} {m}:h.Ns a m ↔ ∃o,h.get? a=some o∧NsO m o:=
 ⟨fun⟨o,es,ep,ho,r⟩=>⟨o,ho,es,ep,r⟩,fun⟨o,ho,es,ep,r⟩=>⟨o,es,ep,ho,r⟩⟩
structure St (B:PM) (ms:List (Addr×OP)) (h:Heap):Prop where
 keep:∀a o,B a=some o→h.get? a=some o
 own:∀p∈ms,∃o,h.get? p.1=some o∧p.2 o
 off:∀p∈ms,B p.1=none
 nd:(ms.map (·.1)).Nodup
 low:∀p∈ms,2<p.1
 st2:∃o,B cStatics=some o
noncomputable def PM.put (B:PM) (a:Addr) (o:Obj):PM:=fun b=>if b=a then some o else B b
noncomputable def PM.le (B B':PM):Prop:=∀a o,B a=some o→B' a=some o
theorem PM.le_refl (B:PM):B.le B:=fun _ _ h=>h
theorem PM.le_trans {B B' B'':PM} (h:B.le B') (h':B'.le B''):B.le B'':=fun a o e=>h' a o (h a o e)
theorem PM.le_put {B:PM} {a:Addr} {o:Obj} (h:B a=none):B.le (B.put a o):=fun b o' e=>by
 unfold PM.put
 by_cases hb:b=a
 ·subst hb;rw [h] at e;contradiction
 ·rw [if_neg hb];exact e
theorem PM.put_self {B:PM} {a:Addr} {o:Obj}:B.put a o a=some o:=by unfold PM.put;rw [if_pos rfl]
namespace St
variable {B:PM} {ms:List (Addr×OP)} {h h':Heap}
theorem get (S:St B ms h) {a o} (e:B a=some o):h.get? a=some o:=S.keep a o e
theorem mem (S:St B ms h) {i:Nat} {a P} (e:ms[i]?=some (a,P)):∃o,h.get? a=some o∧P o:=S.own _ (List.mem_of_getElem? e)
theorem ext (S:St B ms h) (hk:∀b o,h.get? b=some o→h'.get? b=some o):St B ms h':=
 ⟨fun a o e=>hk a o (S.keep a o e),fun p hp=>let ⟨o,ho,r⟩:=S.own p hp;⟨o,hk _ _ ho,r⟩,S.off,S.nd,S.low,S.st2⟩
theorem size2 (S:St B ms h):2<h.objs.size:=by
 obtain⟨o,ho⟩:=S.st2
 exact Heap.lt_size (S.keep _ _ ho)
theorem map_set (ms:List (Addr×OP)) (i:Nat) (a:Addr) (P P':OP) (e:ms[i]?=some (a,P)):(ms.set i (a,P')).map (·.1)=ms.map (·.1):=by
 obtain⟨hl,he⟩:=List.getElem?_eq_some_iff.mp e
 rw [List.map_set]
 apply List.ext_getElem
 ·simp
 ·intro j h1 h2
  rw [List.getElem_set]
  split
  ·rename_i hj;subst hj;simp [he]
  ·rfl
theorem ne_of_nd {ms:List (Addr×OP)} (nd:(ms.map (·.1)).Nodup) {i j:Nat} {a P} {p} (e:ms[i]?=some (a,P)) (e':ms[j]?=some p) (hij:i≠j):p.1≠a:=by
 intro hp
 have h1:(ms.map (·.1))[i]?=some a:=by rw [List.getElem?_map,e];rfl
 have h2:(ms.map (·.1))[j]?=some a:=by rw [List.getElem?_map,e',←hp];rfl
 obtain⟨l1,g1⟩:=List.getElem?_eq_some_iff.mp h1
 obtain⟨l2,g2⟩:=List.getElem?_eq_some_iff.mp h2
 exact hij ((List.getElem_inj nd).mp (g1.trans g2.symm))
theorem upd (S:St B ms h) {i:Nat} {a:Addr} {P P':OP} {o':Obj} (e:ms[i]?=some (a,P)) (hs:Heap.SameBut a h h') (ho:h'.get? a=some o') (hP:P' o'):St B (ms.set i (a,P')) h':=by
 have low':∀p∈ms.set i (a,P'),2<p.1:=fun p hp=>by
  obtain⟨j,hj⟩:=List.mem_iff_getElem?.mp hp
  rw [List.getElem?_set] at hj
  split at hj
  ·split at hj
   ·obtain rfl:=Option.some.inj hj;exact S.low (a,P) (List.mem_of_getElem? e)
   ·contradiction
  ·exact S.low p (List.mem_of_getElem? hj)
 refine⟨fun b o eb=>?_,fun p hp=>?_,fun p hp=>?_,?_,low',S.st2⟩
 ·have:b≠a:=fun q=>by have:=S.off _ (List.mem_of_getElem? e);rw [q] at eb;rw [this] at eb;contradiction
  exact(hs.2 b this).trans (S.keep b o eb)
 ·obtain⟨j,hj⟩:=List.mem_iff_getElem?.mp hp
  rw [List.getElem?_set] at hj
  split at hj
  ·split at hj
   ·obtain rfl:=Option.some.inj hj;exact⟨o',ho,hP⟩
   ·contradiction
  ·rename_i hij
   obtain⟨o,ho2,r⟩:=S.own p (List.mem_of_getElem? hj)
   exact⟨o,(hs.2 p.1 (ne_of_nd S.nd e hj hij)).trans ho2,r⟩
 ·obtain⟨j,hj⟩:=List.mem_iff_getElem?.mp hp
  rw [List.getElem?_set] at hj
  split at hj
  ·split at hj
   ·obtain rfl:=Option.some.inj hj;exact S.off (a,P) (List.mem_of_getElem? e)
   ·contradiction
  ·exact S.off p (List.mem_of_getElem? hj)
 ·rw [map_set ms i a P P' e];exact S.nd
theorem notB_of_none (S:St B ms h) {a:Addr} (hn:h.get? a=none):B a=none:=by
 cases q:B a with
 | none=>rfl
 | some o=>rw [S.keep a o q] at hn;contradiction
theorem notMs_of_none (S:St B ms h) {a:Addr} (hn:h.get? a=none):a∉ms.map (·.1):=fun hm=>by
 obtain⟨p,hp,rfl⟩:=List.mem_map.mp hm
 obtain⟨o,ho,_⟩:=S.own p hp
 rw [ho] at hn;contradiction
theorem newB (S:St B ms h) {a:Addr} {o:Obj} (hn:h.get? a=none) (hk:∀b o,h.get? b=some o→h'.get? b=some o) (ho:h'.get? a=some o):St (B.put a o) ms h':=by
 have S':=S.ext hk
 have st2':∃o',(B.put a o) cStatics=some o':=by
  obtain⟨o2,h2⟩:=S.st2
  unfold PM.put
  by_cases q:cStatics=a
  ·exact⟨o,if_pos q⟩
  ·exact⟨o2,(if_neg q).trans h2⟩
 refine⟨fun b o' e=>?_,S'.own,fun p hp=>?_,S.nd,S.low,st2'⟩
 ·unfold PM.put at e
  split at e
  ·rename_i q;subst q;obtain rfl:=Option.some.inj e;exact ho
  ·exact S'.keep b o' e
 ·unfold PM.put
  rw [if_neg fun(q:p.1=a)=>S.notMs_of_none hn (q▸List.mem_map_of_mem hp)]
  exact S.off p hp
theorem newM (S:St B ms h) {a:Addr} {o:Obj} {P:OP} (hn:h.get? a=none) (hk:∀b o,h.get? b=some o→h'.get? b=some o) (ho:h'.get? a=some o) (hP:P o) (hl:2<a):St B ((a,P)::ms) h':=by
 have S':=S.ext hk
 refine⟨S'.keep,fun p hp=>?_,fun p hp=>?_,?_,fun p hp=>(by rcases List.mem_cons.mp hp with rfl | hp;exact hl;exact S.low p hp),S.st2⟩
 ·rcases List.mem_cons.mp hp with rfl | hp
  ·exact⟨o,ho,hP⟩
  ·exact S'.own p hp
 ·rcases List.mem_cons.mp hp with rfl | hp
  ·exact S.notB_of_none hn
  ·exact S.off p hp
 ·rw [List.map_cons];exact List.nodup_cons.mpr ⟨S.notMs_of_none hn,S.nd⟩
theorem push_none (h:Heap):h.get? h.objs.size=none:=by
 cases q:h.get? h.objs.size with
 | none=>rfl
 | some o=>exact absurd (Heap.lt_size q) (Nat.lt_irrefl _)
theorem pushB (S:St B ms h) {o:Obj} (hf:o.isFreed=false:=by rfl):St (B.put h.objs.size o) ms (h.push o):=
 S.newB (push_none h) (fun _ _ e=>Heap.get?_push_of_some _ e) (Heap.get?_push_size _ hf)
theorem pushM (S:St B ms h) {o:Obj} {P:OP} (hP:P o) (hf:o.isFreed=false:=by rfl):St B ((h.objs.size,P)::ms) (h.push o):=
 S.newM (push_none h) (fun _ _ e=>Heap.get?_push_of_some _ e) (Heap.get?_push_size _ hf) hP S.size2
theorem pushX (S:St B ms h) (o:Obj):St B ms (h.push o):=S.ext fun _ _ e=>Heap.get?_push_of_some _ e
theorem weak (S:St B ms h) {ms':List (Addr×OP)} (hm:ms'.map (·.1)=ms.map (·.1)) (hw:∀(i:Nat) a P P',ms[i]?=some (a,P)→ms'[i]?=some (a,P')→∀o,P o→P' o):St B ms' h:=by
 have at_:∀p∈ms',∃P,(p.1,P)∈ms∧∀o,P o→p.2 o:=fun p hp=>by
  obtain⟨j,hj⟩:=List.mem_iff_getElem?.mp hp
  have h1:(ms.map (·.1))[j]?=some p.1:=by rw [←hm,List.getElem?_map,hj];rfl
  rw [List.getElem?_map] at h1
  obtain⟨q,hq,hq1⟩:=Option.map_eq_some_iff.mp h1
  obtain⟨qa,qP⟩:=q
  dsimp only at hq1;subst hq1
  exact⟨qP,List.mem_of_getElem? hq,hw j _ _ _ hq hj⟩
 refine⟨S.keep,fun p hp=>?_,fun p hp=>?_,by rw [hm];exact S.nd,fun p hp=>(by obtain⟨P,hP,_⟩:=at_ p hp;exact S.low (p.1,P) hP),S.st2⟩
 ·obtain⟨P,hP,hi⟩:=at_ p hp
  obtain⟨o,ho,r⟩:=S.own _ hP
  exact⟨o,ho,hi o r⟩
 ·obtain⟨P,hP,_⟩:=at_ p hp
  have z:=S.off (p.1,P) hP
  exact z
theorem drop0 {p:Addr×OP} (S:St B (p::ms) h):St B ms h:=
 ⟨S.keep,fun q hq=>S.own q (.tail _ hq),fun q hq=>S.off q (.tail _ hq),(List.nodup_cons.mp S.nd).2,fun q hq=>S.low q (.tail _ hq),S.st2⟩
theorem dropTo (S:St B ms h) (ms':List (Addr×OP)) (hs:ms'.Sublist ms):St B ms' h:=
 ⟨S.keep,fun q hq=>S.own q (hs.subset hq),fun q hq=>S.off q (hs.subset hq),S.nd.sublist (hs.map _),fun q hq=>S.low q (hs.subset hq),S.st2⟩
theorem freeze0 {a:Addr} {o:Obj} {P:OP} (S:St B ((a,P)::ms) h) (ho:h.get? a=some o):St (B.put a o) ms h:=by
 have nd:=List.nodup_cons.mp S.nd
 have st2':∃o',(B.put a o) cStatics=some o':=by
  obtain⟨o2,h2⟩:=S.st2
  unfold PM.put
  by_cases q:cStatics=a
  ·exact⟨o,if_pos q⟩
  ·exact⟨o2,(if_neg q).trans h2⟩
 refine⟨fun b o' e=>?_,fun q hq=>S.own q (.tail _ hq),fun q hq=>?_,nd.2,fun q hq=>S.low q (.tail _ hq),st2'⟩
 ·unfold PM.put at e
  split at e
  ·rename_i q;subst q;obtain rfl:=Option.some.inj e;exact ho
  ·exact S.keep b o' e
 ·unfold PM.put
  have hne:q.1≠a:=fun e=>nd.1 (List.mem_map.mpr ⟨q,hq,e⟩)
  rw [if_neg hne]
  exact S.off q (.tail _ hq)
theorem ne (S:St B ms h) {i j:Nat} {a b:Addr} {P Q:OP} (hi:ms[i]?=some (a,P)) (hj:ms[j]?=some (b,Q)) (hij:i≠j:=by decide):a≠b:=fun e=>by
 have h1:(ms.map (·.1))[i]?=some a:=by rw [List.getElem?_map,hi];rfl
 have h2:(ms.map (·.1))[j]?=some b:=by rw [List.getElem?_map,hj];rfl
 exact hij ((List.getElem?_inj (List.getElem?_eq_some_iff.mp h1).1 S.nd).mp (h1.trans (e▸h2.symm)))
theorem perm {ms':List (Addr×OP)} (S:St B ms h) (hp:ms'.Perm ms):St B ms' h:=
 ⟨S.keep,fun q hq=>S.own q (hp.mem_iff.mp hq),fun q hq=>S.off q (hp.mem_iff.mp hq),(hp.map _).nodup_iff.mpr S.nd,fun q hq=>S.low q (hp.mem_iff.mp hq),S.st2⟩
theorem notMods (S:St B ms h) {i:Nat} {a P} (e:ms[i]?=some (a,P)):(a == sysModules)=false:=by
 have:=S.low _ (List.mem_of_getElem? e)
 rw [beq_eq_false_iff_ne]
 intro q
 have h2:2<sysModules:=q▸this
 exact absurd h2 (by decide)
end St
section
variable {prog:Program} {w:World}
class GenI where
 ok:Array GenState→Prop
variable [GenI]
noncomputable def Tr (prog:Program) (w:World) (A:Around) {α:Type} (t:Sem α) (h:Heap) (P:α→Heap→Prop) (X:Value→Heap→Prop):Prop:=
 ∀(g:Array GenState) (d:Drawn) (tk:Nat) (os:OsState) (Q:α→Shared→Prop) (E:Value→Shared→Prop),GenI.ok g→
  (∀a h' g' tk',GenI.ok g'→P a h'→Q a ⟨h',g',d,tk',os⟩)→(∀e h' g' tk',GenI.ok g'→X e h'→E e ⟨h',g',d,tk',os⟩)→wpAny (model prog w) A t Q E ⟨h,g,d,tk,os⟩
noncomputable abbrev noX:Value→Heap→Prop:=fun _ _=>False
section
variable {A:Around} {α β:Type} {t:Sem α} {h:Heap} {P P':α→Heap→Prop} {X X':Value→Heap→Prop}
theorem Tr.pure {a:α} (hp:P a h):Tr prog w A (pure a:Sem α) h P X:=fun _ _ _ _ _ _ hg hq _=>wpAny_pure (hq _ _ _ _ hg hp)
theorem Tr.mono (ht:Tr prog w A t h P X) (hP:∀a h',P a h'→P' a h') (hX:∀e h',X e h'→X' e h'):Tr prog w A t h P' X':=
 fun g d tk os Q E hg hq he=>ht g d tk os Q E hg (fun a h' g' tk' hg' hp=>hq a h' g' tk' hg' (hP a h' hp)) (fun e h' g' tk' hg' hx=>he e h' g' tk' hg' (hX e h' hx))
theorem Tr.post (ht:Tr prog w A t h P X) (hP:∀a h',P a h'→P' a h'):Tr prog w A t h P' X:=ht.mono hP fun _ _ x=>x
theorem Tr.noE (ht:Tr prog w A t h P noX):Tr prog w A t h P X:=ht.mono (fun _ _ x=>x) fun _ _ x=>x.elim
theorem Tr.bind {m:Sem α} {f:α→Sem β} {R:β→Heap→Prop} (hm:Tr prog w A m h P X) (hf:∀a h',P a h'→Tr prog w A (f a) h' R X):Tr prog w A (m >>= f) h R X:=
 fun g d tk os Q E hg hq he=>wpAny_bind (hm g d tk os _ E hg (fun a h' g' tk' hg' hp=>hf a h' hp g' d tk' os Q E hg' hq he) he)
theorem Tr.of (ht:∀(g:Array GenState) (d:Drawn) (tk:Nat) (os:OsState) (Q:α→Shared→Prop) (E:Value→Shared→Prop),GenI.ok g→
  (∀a h' tk',P a h'→Q a ⟨h',g,d,tk',os⟩)→wpAny (model prog w) A t Q E ⟨h,g,d,tk,os⟩):Tr prog w A t h P X:=
 fun g d tk os Q E hg hq _=>ht g d tk os Q E hg fun a h' tk' hp=>hq a h' g tk' hg hp
end
noncomputable def Ev (prog:Program) (w:World) (A:Around) (env:Env) (h:Heap) (e:PySem.Expr) (av:AV):Prop:=
 ∀(g:Array GenState) (d:Drawn) (tk:Nat) (os:OsState) (Q:Value→Shared→Prop) (E:Value→Shared→Prop),
  (∀v tk',av.ok v→Q v ⟨h,g,d,tk',os⟩)→wpAny (model prog w) A (eval e env) Q E ⟨h,g,d,tk,os⟩
noncomputable def Et (prog:Program) (w:World) (A:Around) (env:Env) (h:Heap) (e:PySem.Expr) (b:Bool):Prop:=
 ∀(g:Array GenState) (d:Drawn) (tk:Nat) (os:OsState) (Q:Bool→Shared→Prop) (E:Value→Shared→Prop),
  (∀tk',Q b ⟨h,g,d,tk',os⟩)→wpAny (model prog w) A (isTrue e env (eval e env)) Q E ⟨h,g,d,tk,os⟩
theorem Ev.tr {A:Around} {env:Env} {h:Heap} {e:PySem.Expr} {av:AV} {X} (he:Ev prog w A env h e av):Tr prog w A (eval e env) h (fun v h'=>h'=h∧av.ok v) X:=
 .of fun g d tk os Q E _ hq=>he g d tk os Q E fun v tk' hv=>hq v h tk' ⟨rfl,hv⟩
structure EnvOk (env:Env) (L:Addr) (nms:List Str):Prop where
 loc:env.locals=L
 kind:env.scope.kind = .function
 lk:(nms.all fun x=>decide (env.scope.names.lookup x=some .local))=true
 glob:env.globals=mainGlobals
 bi:env.builtins=builtinsNs
theorem EnvOk.at {env:Env} {L:Addr} {nms:List Str} (O:EnvOk env L nms) {i:Nat} {x:Str} (hx:nms[i]?=some x):env.kindOf x=some .local:=
 of_decide_eq_true (List.all_eq_true.mp O.lk x (List.mem_of_getElem? hx))
section
variable {A:Around} {env:Env} {h:Heap} {B:PM} {ms:List (Addr×OP)} {L:Addr} {nms:List Str} {avs:List AV}
theorem frame_at (S:St B ((L,FrameO nms avs)::ms) h):∃m,h.Ns L m∧Fits nms avs m:=by
 obtain⟨o,ho,m,hm,hf⟩:=S.mem (i:=0) rfl
 exact⟨m,ns_iff.mpr ⟨o,ho,hm⟩,hf⟩
theorem Ev.name (O:EnvOk env L nms) (S:St B ((L,FrameO nms avs)::ms) h) (i:Nat) {x:Str} {pos:Pos} {av:AV} (hx:nms[i]?=some x) (ha:avs[i]?=some av)
  (hne:av≠ .any:=by nofun) (hd:(x == ("__debug__" :Str))=false:=by decide):Ev prog w A env h (.Name x pos) av:=by
 intro g d tk os Q E hq
 obtain⟨m,hm,hf⟩:=frame_at S
 have hi:=hf i x av hx ha
 cases av with
 | any=>exact absurd rfl hne
 | int j=>obtain⟨t,ht⟩:=hi;exact wpAny_Name (wpAny_loadName_local O.kind (O.at hx) (by rw [O.loc];exact hm) ht (hq _ _ ⟨t,rfl⟩)) hd
 | val v=>exact wpAny_Name (wpAny_loadName_local O.kind (O.at hx) (by rw [O.loc];exact hm) hi (hq _ _ rfl)) hd
theorem Ev.cell {x:Str} {pos:Pos} {c:Addr} {v:Value} (hk:env.scope.kind = .function) (hl:env.kindOf x=some .cell) (hc:env.cells.lookup x=some c) (hv:h.IsCell c (some v))
  (hd:(x == ("__debug__" :Str))=false:=by decide):Ev prog w A env h (.Name x pos) (.val v):=
 fun _ _ _ _ _ _ hq=>wpAny_Name (wpAny_loadName_cell hk hl hc hv (hq _ _ rfl)) hd
theorem Ev.free {x:Str} {pos:Pos} {c:Addr} {v:Value} (hk:env.scope.kind = .function) (hl:env.kindOf x=some .free) (hc:env.cells.lookup x=some c) (hv:h.IsCell c (some v))
  (hn:(x == ("__classdict__" :Str))=false:=by decide) (hd:(x == ("__debug__" :Str))=false:=by decide):Ev prog w A env h (.Name x pos) (.val v):=
 fun _ _ _ _ _ _ hq=>wpAny_Name (wpAny_loadName_free hk hl hc hv (hq _ _ rfl) hn) hd
theorem Ev.global {x:Str} {pos:Pos} {mg} {v:Value} (O:EnvOk env L nms) (hl:env.kindOf x=some .globalImplicit) (hg:h.Ns mainGlobals mg) (hv:mg x=some v)
  (hd:(x == ("__debug__" :Str))=false:=by decide):Ev prog w A env h (.Name x pos) (.val v):=
 fun _ _ _ _ _ _ hq=>Calls.Name_function_global O.kind hl (Calls.loadGlobal_global (by rw [O.glob];exact hg) hv (hq _ _ rfl)) hd
theorem Ev.builtin {x:Str} {pos:Pos} {mg mb} {v:Value} (O:EnvOk env L nms) (hl:env.kindOf x=some .globalImplicit) (hg:h.Ns mainGlobals mg) (hm:mg x=none) (hb:h.Ns builtinsNs mb) (hv:mb x=some v)
  (hd:(x == ("__debug__" :Str))=false:=by decide):Ev prog w A env h (.Name x pos) (.val v):=
 fun _ _ _ _ _ _ hq=>Calls.Name_function_global O.kind hl (Calls.loadGlobal_builtin (by rw [O.glob];exact hg) hm (by rw [O.bi];exact hb) hv (hq _ _ rfl)) hd
theorem Ev.cInt {i:Int} {k pos}:Ev prog w A env h (.Constant (.int i) k pos) (.int i):=fun _ _ _ _ _ _ hq=>wpAny_Constant_int (hq _ _ ⟨_,rfl⟩)
theorem Ev.cNone {k pos}:Ev prog w A env h (.Constant .none k pos) (.val .none):=fun _ _ _ _ _ _ hq=>wpAny_Constant_none (hq _ _ rfl)
theorem Ev.cBool {b:Bool} {k pos}:Ev prog w A env h (.Constant (.bool b) k pos) (.val (.bool b)):=fun _ _ _ _ _ _ hq=>wpAny_Constant_bool (hq _ _ rfl)
theorem Ev.bin {l r:PySem.Expr} {op pos} {a b c:AV} (hl:Ev prog w A env h l a) (hr:Ev prog w A env h r b)
  (ho:∀g d tk os Q E,∀va vb,a.ok va→b.ok vb→(∀v tk',c.ok v→Q v ⟨h,g,d,tk',os⟩)→wpAny (model prog w) A (binaryOp op va vb) Q E ⟨h,g,d,tk,os⟩):Ev prog w A env h (.BinOp l op r pos) c:=
 fun g d tk os Q E hq=>wpAny_BinOp (hl g d tk os _ E fun va tk₁ hva=>hr g d tk₁ os _ E fun vb tk₂ hvb=>ho g d tk₂ os Q E va vb hva hvb hq)
theorem Ev.add {l r:PySem.Expr} {pos} {a b:Int} (hl:Ev prog w A env h l (.int a)) (hr:Ev prog w A env h r (.int b)):Ev prog w A env h (.BinOp l .Add r pos) (.int (a+b)):=
 .bin hl hr fun _ _ _ _ _ _ va vb ⟨_,ha⟩ ⟨_,hb⟩ hq=>by subst ha hb;exact add_int (hq _ _ ⟨_,rfl⟩)
theorem Ev.sub {l r:PySem.Expr} {pos} {a b:Int} (hl:Ev prog w A env h l (.int a)) (hr:Ev prog w A env h r (.int b)):Ev prog w A env h (.BinOp l .Sub r pos) (.int (a - b)):=
 .bin hl hr fun _ _ _ _ _ _ va vb ⟨_,ha⟩ ⟨_,hb⟩ hq=>by subst ha hb;exact sub_int (hq _ _ ⟨_,rfl⟩)
noncomputable def Ec (prog:Program) (w:World) (A:Around) (h:Heap) (op:CmpOp) (a b:AV) (c:Bool):Prop:=
 ∀(g:Array GenState) (d:Drawn) (tk:Nat) (os:OsState) (Q:Value→Shared→Prop) (E:Value→Shared→Prop) (va vb:Value),a.ok va→b.ok vb→(∀tk',Q (.bool c) ⟨h,g,d,tk',os⟩)→
  wpAny (model prog w) A (compareOp op va vb) Q E ⟨h,g,d,tk,os⟩
theorem Ev.cmp {l r:PySem.Expr} {op pos} {a b:AV} {c:Bool} (hl:Ev prog w A env h l a) (hr:Ev prog w A env h r b) (ho:Ec prog w A h op a b c)
  (hm:behindInMarks op r=false:=by with_unfolding_all rfl):Ev prog w A env h (.Compare l [op] [r] pos) (.val (.bool c)):=
 fun g d tk os Q E hq=>wpAny_Compare1 (hl g d tk os _ E fun va tk₁ hva=>hr g d tk₁ os _ E fun vb tk₂ hvb=>ho g d tk₂ os Q E va vb hva hvb fun tk'=>hq _ tk' rfl) hm
theorem Et.cmp {l r:PySem.Expr} {op pos} {a b:AV} {c:Bool} (hl:Ev prog w A env h l a) (hr:Ev prog w A env h r b) (ho:Ec prog w A h op a b c)
  (hm:behindInMarks op r=false:=by with_unfolding_all rfl):Et prog w A env h (.Compare l [op] [r] pos) c:=
 fun g d tk os Q E hq=>wpAny_isTrue_Compare1 (hl g d tk os _ E fun va tk₁ hva=>hr g d tk₁ os _ E fun vb tk₂ hvb=>ho g d tk₂ os _ E va vb hva hvb fun tk'=>wpAny_truthy_bool (hq tk')) hm
theorem Ec.lt {a b:Int}:Ec prog w A h .Lt (.int a) (.int b) (decide (a<b)):=fun _ _ _ _ _ _ va vb ⟨_,ha⟩ ⟨_,hb⟩ hq=>by subst ha hb;exact lt_int (hq _)
theorem Ec.le {a b:Int}:Ec prog w A h .LtE (.int a) (.int b) (decide (a≤b)):=fun _ _ _ _ _ _ va vb ⟨_,ha⟩ ⟨_,hb⟩ hq=>by subst ha hb;exact le_int (hq _)
theorem Ec.gt {a b:Int}:Ec prog w A h .Gt (.int a) (.int b) (decide (a>b)):=fun _ _ _ _ _ _ va vb ⟨_,ha⟩ ⟨_,hb⟩ hq=>by subst ha hb;exact gt_int (hq _)
theorem Ec.eq {a b:Int}:Ec prog w A h .Eq (.int a) (.int b) (a == b):=fun _ _ _ _ _ _ va vb ⟨_,ha⟩ ⟨_,hb⟩ hq=>by subst ha hb;exact eq_int (hq _)
theorem Ec.ne {a b:Int}:Ec prog w A h .NotEq (.int a) (.int b) (a !=b):=fun _ _ _ _ _ _ va vb ⟨_,ha⟩ ⟨_,hb⟩ hq=>by subst ha hb;exact ne_int (hq _)
noncomputable def AV.isNone:AV→Bool
 | .val .none=>true
 | _=>false
theorem AV.isNone_ok {a:AV} {v:Value} (hne:a≠ .any) (h:a.ok v):(v == Value.none)=a.isNone:=by
 cases a with
 | any=>exact absurd rfl hne
 | int i=>obtain⟨t,rfl⟩:=h;rfl
 | val v'=>subst h;cases v <;> rfl
theorem Ec.isNone {a:AV} (hne:a≠ .any:=by nofun):Ec prog w A h .Is a (.val .none) a.isNone:=fun _ _ _ _ _ _ va vb ha hb hq=>by
 have hb':vb = .none:=hb
 subst hb';exact is_none (by rw [AV.isNone_ok hne ha];exact hq _)
theorem Ec.isNotNone {a:AV} (hne:a≠ .any:=by nofun):Ec prog w A h .IsNot a (.val .none) (!a.isNone):=fun _ _ _ _ _ _ va vb ha hb hq=>by
 have hb':vb = .none:=hb
 subst hb';exact isNot_none (by rw [AV.isNone_ok hne ha];exact hq _)
theorem Ec.inMap {f:Int→Option Value} {a:Addr} {k:Int} (hm:h.MapOf (intKind prog w) a f) (hs:(a == sysModules)=false):Ec prog w A h .In (.int k) (.val (.ref a)) (f k).isSome:=
 fun _ _ _ _ _ _ va vb ⟨t,ha⟩ hb hq=>by
  have hb':vb = .ref a:=hb
  subst ha hb';exact wpAny_in_of (intKind_is _ _ k t) hs hm (hq _)
theorem Ec.notInMap {f:Int→Option Value} {a:Addr} {k:Int} (hm:h.MapOf (intKind prog w) a f) (hs:(a == sysModules)=false):Ec prog w A h .NotIn (.int k) (.val (.ref a)) (!(f k).isSome):=
 fun _ _ _ _ _ _ va vb ⟨t,ha⟩ hb hq=>by
  have hb':vb = .ref a:=hb
  subst ha hb';exact wpAny_notIn_of (intKind_is _ _ k t) hs hm (hq _)
theorem Ev.sub_ {o i:PySem.Expr} {pos} {a b c:AV} (ho:Ev prog w A env h o a) (hi:Ev prog w A env h i b)
  (hs:∀va vb,a.ok va→b.ok vb→∃T id,typeLookup (.type T) "__getitem__" =pure (some (.builtin id))∧(∀g d tk os,Shared.TypeIs ⟨h,g,d,tk,os⟩ va T)∧
   (∀g d tk os Q E,(∀v tk',c.ok v→Q v ⟨h,g,d,tk',os⟩)→wpAny (model prog w) A (getItem va vb) Q E ⟨h,g,d,tk,os⟩)∧subscripted i false va vb=operate [va,vb] (getItem va vb)):Ev prog w A env h (.Subscript o i pos) c:=by
 intro g d tk os Q E hq
 rw [eval_Subscript]
 refine wpAny_bind (ho g d tk os _ E fun va tk₁ hva=>wpAny_bind (wpAny_holding (hi g d tk₁ os _ E fun vb tk₂ hvb=>?_)))
 obtain⟨T,id,hl,hT,hgi,hsub⟩:=hs va vb hva hvb
 refine wpAny_bind (wpAny_standAt ?_)
 refine wpAny_bind ?_
 rw [getitemInPython_of_ne (hT g d tk₂ os).not_modules]
 refine wpAny_bind (wpAny_specialOf (hT g d tk₂ os) hl ?_)
 refine wpAny_pure ?_
 rw [hsub]
 refine wpAny_bind (wpAny_operating (hgi g d tk₂ os _ E fun v tk' hv=>?_))
 exact wpAny_bind (wpAny_letTemporaryGo (wpAny_pure (hq v tk' hv)))
end
end
end
section
set_option tactic.hygienic false
open PySem PySem.W PyProof.Rows
variable [GenI]
section
variable {prog:Program} {w:World}
theorem tup_lt_eq (x y:Value):Builtin.«tuple.__lt__» ⟨[x,y],[]⟩=(do
  if !(←isInstance y (.type "tuple"))then return ←ret .notImplemented
  let xs ←Builtin.Tuple.tupleItemsOf x
  let ys ←Builtin.Tuple.tupleItemsOf y
  for (x,y) in xs.toList.zip ys.toList do
   if !(←eqBool x y)then
    rule "tuple.compare.by-the-first-pair-that-differs";return ←ret (←richCompare .Lt x y)
  ret (Builtin.Tuple.tupleCompareSizes .Lt xs.size ys.size)):=by
 rfl
noncomputable def TupO (vs:List Value):OP:=fun o=>o.cls = .type "tuple"∧∃n,o.data = .seq vs.toArray n
theorem wpAny_tupleItems {A:Around} {E:Value→Shared→Prop} {s:Shared} {a:Addr} {o:Obj} {vs:List Value} {Q:Array Value→Shared→Prop} (ho:s.heap.get? a=some o) (ht:TupO vs o) (h:Q vs.toArray s):
  wpAny (model prog w) A (Builtin.Tuple.tupleItemsOf (.ref a)) Q E s:=by
 obtain⟨_,n,hd⟩:=ht
 unfold Builtin.Tuple.tupleItemsOf
 exact wpAny_bind (wpAny_seqItems ho hd (wpAny_pure h))
theorem tup_lt {A:Around} {E:Value→Shared→Prop} {s:Shared} {a b:Addr} {oa ob:Obj} {p c p' c':Int} {tp tc tp' tc':Tok} {r r':List Value} {Q:Value→Shared→Prop}
  (ha:s.heap.get? a=some oa) (hb:s.heap.get? b=some ob) (ta:TupO (.int p tp:: .int c tc::r) oa) (tb:TupO (.int p' tp':: .int c' tc'::r') ob) (hc:c≠c') (hu:A.units<cLine)
  (h:Q (.bool (decide (p<p'∨p=p'∧c<c'))) s):wpAny (model prog w) A (richCompare .Lt (.ref a) (.ref b)) Q E s:=by
 have hTa:s.TypeIs (.ref a) "tuple" :=⟨oa,ha,ta.1⟩
 have hTb:s.TypeIs (.ref b) "tuple" :=⟨ob,hb,tb.1⟩
 refine wpAny_richCompare_same_room (op:= .Lt) hTa hTb F.slot_tuple_lt (wpAny_call_entry F.slot_tuple_lt hTa F.entry_tuple_lt ?_ (F.args_tuple_lt_2 _ _)) hu
 rw [tup_lt_eq]
 refine wpAny_bind (wpAny_isInstance (T:= "tuple") (b:=true) hTb (by rw [isSubtype_type];kernel_rfl) ?_)
 simp only [Bool.not_true,Bool.false_eq_true,if_false]
 refine wpAny_bind (wpAny_tupleItems ha ta (wpAny_bind (wpAny_tupleItems hb tb ?_)))
 refine wpAny_bind ?_
 simp only [List.zip_cons_cons,List.forIn_cons]
 refine wpAny_bind (wpAny_bind (wpAny_eqBool_int ?_))
 by_cases hp:p=p'
 ·subst hp
  simp only [BEq.rfl,Bool.not_true,Bool.false_eq_true,if_false]
  refine wpAny_pure (wpAny_bind (wpAny_bind (wpAny_eqBool_int ?_)))
  rw [beq_eq_false_iff_ne.mpr hc]
  simp only [Bool.not_false,if_true]
  refine wpAny_bind (wpAny_rule (wpAny_bind (lt_int ?_)))
  refine wpAny_bind (wpAny_pure (wpAny_pure (wpAny_pure (wpAny_pure ⟨_,rfl,nofun,?_⟩))))
  have e:decide (p<p∨p=p∧c<c')=decide (c<c'):=by
   apply decide_eq_decide.mpr;constructor
   ·rintro(h | ⟨_,h⟩) <;> omega
   ·intro h;exact .inr ⟨rfl,h⟩
  rw [e] at h;exact h
 ·rw [beq_eq_false_iff_ne.mpr hp]
  simp only [Bool.not_false,if_true]
  refine wpAny_bind (wpAny_rule (wpAny_bind (lt_int ?_)))
  refine wpAny_bind (wpAny_pure (wpAny_pure (wpAny_pure (wpAny_pure ⟨_,rfl,nofun,?_⟩))))
  have e:decide (p<p'∨p=p'∧c<c')=decide (p<p'):=by
   apply decide_eq_decide.mpr;constructor
   ·rintro(h | ⟨h,_⟩) <;> omega
   ·intro h;exact .inl h
  rw [e] at h;exact h
end
end
section
set_option tactic.hygienic false
open PySem PySem.W PyProof.Rows
variable [GenI]
section
variable {α:Type} (key:α→Int×Int)
noncomputable def klt (a b:α):Prop:=(key a).1<(key b).1∨(key a).1=(key b).1∧(key a).2<(key b).2
variable {key}
theorem klt_asymm {a b:α} (h:klt key a b):¬klt key b a:=by unfold klt at *;exact nt289 h
theorem kle_trans {a b c:α} (h:¬klt key b a) (h':¬klt key c b):¬klt key c a:=by unfold klt at *;exact nt348 h h'
theorem kle_of_lt {a b c:α} (h:¬klt key a c) (h':klt key b c):¬klt key a b:=by unfold klt at *;exact nt347 h h'
variable (key)
noncomputable def okAt (xs:Array α) (i j:Nat):Prop:=∀x y,xs[i]?=some x→xs[j]?=some y→¬klt key x y
noncomputable def par (i:Nat):Nat:=(i - 1) / 2
noncomputable def IsHeap (xs:Array α):Prop:=∀i,0<i→okAt key xs i (par i)
noncomputable def UpInv (xs:Array α) (pos:Nat):Prop:=(∀i,0<i→i≠pos→okAt key xs i (par i))∧∀i,0<i→par i=pos→0<pos→okAt key xs i (par pos)
noncomputable def DownInv (xs:Array α) (pos:Nat):Prop:=(∀i,0<i→i≠pos→par i≠pos→okAt key xs i (par i))∧∀i,0<i→par i=pos→0<pos→okAt key xs i (par pos)
noncomputable def sw (xs:Array α) (i j:Nat) (x y:α):Array α:=(xs.setIfInBounds i y).setIfInBounds j x
variable {key}
theorem sw_get {xs:Array α} {i j k:Nat} {x y:α} (hx:xs[i]?=some x) (hy:xs[j]?=some y) (_hij:i≠j):(sw xs i j x y)[k]?=if k=j then some x else if k=i then some y else xs[k]?:=by
 unfold sw
 have hi:i<xs.size:=(Array.getElem?_eq_some_iff.mp hx).1
 have hj:j<xs.size:=(Array.getElem?_eq_some_iff.mp hy).1
 rw [Array.getElem?_setIfInBounds]
 by_cases h:k=j
 ·subst h;simp [hj]
 ·rw [if_neg (Ne.symm h),if_neg h,Array.getElem?_setIfInBounds]
  by_cases h':k=i
  ·subst h';simp [hi]
  ·rw [if_neg (Ne.symm h'),if_neg h']
theorem sw_size {xs:Array α} {i j:Nat} {x y:α}:(sw xs i j x y).size=xs.size:=by unfold sw;simp
theorem sw_perm {xs:Array α} {i j:Nat} {x y:α} (hx:xs[i]?=some x) (hy:xs[j]?=some y):(sw xs i j x y).toList.Perm xs.toList:=by
 have hi:i<xs.size:=(Array.getElem?_eq_some_iff.mp hx).1
 have hj:j<xs.size:=(Array.getElem?_eq_some_iff.mp hy).1
 have e:sw xs i j x y=xs.swap i j hi hj:=by
  unfold sw
  apply Array.ext_getElem?
  intro k
  have hx':=(Array.getElem?_eq_some_iff.mp hx).2
  have hy':=(Array.getElem?_eq_some_iff.mp hy).2
  rw [Array.getElem?_setIfInBounds,Array.getElem?_setIfInBounds,Array.getElem?_swap,hx',hy']
  by_cases h:j=k
  ·subst h;simp [hj]
  ·by_cases h':i=k
   ·subst h';simp [hi,h]
   ·simp [h,h']
 rw [e]
 exact Array.perm_iff_toList_perm.mp (Array.swap_perm hi hj)
theorem par_lt {i:Nat} (h:0<i):par i<i:=by unfold par;exact nt31 h
theorem up_swap {xs:Array α} {pos:Nat} {x p:α} (I:UpInv key xs pos) (hp:0<pos) (hx:xs[pos]?=some x) (hpar:xs[par pos]?=some p) (hl:klt key x p):
  UpInv key (sw xs (par pos) pos p x) (par pos):=by
 have hne:par pos≠pos:=Nat.ne_of_lt (par_lt hp)
 have g:=fun k=>sw_get (k:=k) hpar hx hne
 refine⟨fun i hi hin a b ha hb=>?_,fun i hi hpi hq a b ha hb=>?_⟩
 ·rw [g] at ha hb
  by_cases h1:i=pos
  ·subst h1
   rw [if_pos rfl] at ha
   rw [if_neg hne,if_pos rfl] at hb
   obtain rfl:=Option.some.inj ha;obtain rfl:=Option.some.inj hb;exact klt_asymm hl
  ·rw [if_neg h1,if_neg hin] at ha
   by_cases h2:par i=pos
   ·rw [if_pos h2] at hb;obtain rfl:=Option.some.inj hb
    exact I.2 i hi h2 hp a p ha hpar
   ·rw [if_neg h2] at hb
    by_cases h3:par i=par pos
    ·rw [if_pos h3] at hb;obtain rfl:=Option.some.inj hb
     exact kle_of_lt (I.1 i hi h1 a p ha (h3▸hpar)) hl
    ·rw [if_neg h3] at hb
     exact I.1 i hi h1 a b ha hb
 ·have h4:par (par pos)≠pos:=by have:=par_lt hp;have:=par_lt hq;exact nt236 ‹_› this
  have h5:par (par pos)≠par pos:=Nat.ne_of_lt (par_lt hq)
  rw [g] at ha hb
  rw [if_neg h4,if_neg h5] at hb
  have up:=I.1 (par pos) hq hne
  by_cases h1:i=pos
  ·rw [if_pos h1] at ha;obtain rfl:=Option.some.inj ha
   exact up p b hpar hb
  ·rw [if_neg h1,if_neg (by have:=par_lt hi;exact nt245 hpi this)] at ha
   exact kle_trans (up p b hpar hb) (I.1 i hi h1 a p ha (hpi▸hpar))
theorem up_stop {xs:Array α} {pos:Nat} (I:UpInv key xs pos) (h:pos=0∨okAt key xs pos (par pos)):IsHeap key xs:=fun i hi=>by
 by_cases hp:i=pos
 ·subst hp
  rcases h with h | h
  ·exact(nt35 hi h).elim
  ·exact h
 ·exact I.1 i hi hp
theorem down_leaf {xs:Array α} {pos:Nat} (I:DownInv key xs pos) (h:xs.size≤2*pos+1):UpInv key xs pos:=by
 refine⟨fun i hi hne=>?_,fun i hi hpi=>?_⟩
 ·by_cases hp:par i=pos
  ·intro a b ha _
   have:=(Array.getElem?_eq_some_iff.mp ha).1
   unfold par at hp;exact(nt264 h hi hp this).elim
  ·exact I.1 i hi hne hp
 ·intro _ a b ha _
  have:=(Array.getElem?_eq_some_iff.mp ha).1
  unfold par at hpi;exact(nt264 h hi hpi this).elim
theorem down_swap {xs:Array α} {pos child:Nat} {x c:α} (I:DownInv key xs pos) (hc:par child=pos) (hc0:0<child) (hx:xs[pos]?=some x) (hch:xs[child]?=some c)
  (hs:∀i y,0<i→par i=pos→xs[i]?=some y→¬klt key y c):DownInv key (sw xs child pos c x) child:=by
 have hne:child≠pos:=by have:=par_lt hc0;exact nt244 hc this
 have g:=fun k=>sw_get (k:=k) hch hx hne
 refine⟨fun i hi hin hip a b ha hb=>?_,fun i hi hpi _ a b ha hb=>?_⟩
 ·rw [g] at ha hb
  by_cases h1:i=pos
  ·rw [if_pos h1] at ha;obtain rfl:=Option.some.inj ha
   have h2:par i≠pos:=by have:=par_lt hi;exact nt249 h1 this
   rw [if_neg h2,if_neg hip] at hb
   exact I.2 child hc0 hc (nt111 hi h1) c b hch (h1▸hb)
  ·rw [if_neg h1,if_neg hin] at ha
   by_cases h2:par i=pos
   ·rw [if_pos h2] at hb;obtain rfl:=Option.some.inj hb
    exact hs i a hi h2 ha
   ·rw [if_neg h2,if_neg hip] at hb
    exact I.1 i hi h1 h2 a b ha hb
 ·rw [g] at ha hb
  rw [hc,if_pos rfl] at hb;obtain rfl:=Option.some.inj hb
  have h1:i≠pos:=by have:=par_lt hi;have:=par_lt hc0;exact nt341 hc hpi ‹_› this
  have h2:i≠child:=by have:=par_lt hi;exact nt244 hpi this
  rw [if_neg h1,if_neg h2] at ha
  exact I.1 i hi h1 (nt313 hne hpi h1 h2) a c ha (hpi▸hch)
theorem heap_min {xs:Array α} (H:IsHeap key xs) {m:α} (hm:xs[0]?=some m):∀(i:Nat) (x:α),xs[i]?=some x→¬klt key x m:=by
 intro i
 induction i using Nat.strongRecOn with
 | ind i ih=>
  intro x hx
  by_cases h0:i=0
  ·subst h0;rw [hm] at hx;obtain rfl:=Option.some.inj hx;unfold klt;exact nt103
  ·have hi:0<i:=Nat.pos_of_ne_zero h0
   have hl:=par_lt hi
   have hs:par i<xs.size:=by have:=(Array.getElem?_eq_some_iff.mp hx).1;exact nt228 hl this
   have hp:xs[par i]?=some xs[par i]:=by simp [hs]
   exact kle_trans (ih _ hl _ hp) (H i hi x _ hx hp)
theorem push_up {xs:Array α} (H:IsHeap key xs) (x:α):UpInv key (xs.push x) xs.size:=by
 have g:∀k,k<xs.size→(xs.push x)[k]?=xs[k]?:=fun k hk=>by simp [Array.getElem?_push,Nat.ne_of_lt hk]
 refine⟨fun i hi hne a b ha hb=>?_,fun i hi hpi _ a b ha hb=>?_⟩
 ·have h1:i<(xs.push x).size:=(Array.getElem?_eq_some_iff.mp ha).1
  rw [Array.size_push] at h1
  have h2:i<xs.size:=nt161 hne h1
  have h3:=par_lt hi
  rw [g i h2] at ha
  rw [g _ (nt235 h2 h3)] at hb
  exact H i hi a b ha hb
 ·have h1:i<(xs.push x).size:=(Array.getElem?_eq_some_iff.mp ha).1
  rw [Array.size_push] at h1
  have:=par_lt hi
  exact(nt250 hpi h1 this).elim
theorem pop_down {xs:Array α} (H:IsHeap key xs) {x:α}:DownInv key (xs.pop.setIfInBounds 0 x) 0:=by
 refine⟨fun i hi hne hp a b ha hb=>?_,fun i hi hpi h=>absurd h (Nat.lt_irrefl _)⟩
 have h1:i<xs.size - 1:=by have:=(Array.getElem?_eq_some_iff.mp ha).1;simpa using this
 have h2:=par_lt hi
 rw [Array.getElem?_setIfInBounds,if_neg (nt36 hi),Array.getElem?_pop,if_pos h1] at ha
 rw [Array.getElem?_setIfInBounds,if_neg (nt260 hp h1 h2),Array.getElem?_pop,if_pos (nt225 h1 h2)] at hb
 exact H i hi a b ha hb
end
end
section
set_option tactic.hygienic false
open PySem PySem.W PyProof.Rows
variable [GenI]
section
variable {prog:Program} {w:World}
noncomputable def hItems (a:Addr):Sem (Array Value):=do
 let some xs ←seqItems? (.ref a) | unsupported "internal:_heapq"
 return xs
noncomputable def hAt (xs:Array Value) (i:Nat):Sem Value:=
 match xs[i]? with
 | some v=>pure v
 | none=>unsupported "internal:_heapq.index"
noncomputable def hSwap (a:Addr) (i j:Nat):Sem Unit:=do
 let xs ←hItems a
 let x ←hAt xs i
 let y ←hAt xs j
 updateSeq a fun xs=>(xs.setIfInBounds i y).setIfInBounds j x
noncomputable def hLess (a:Addr) (size:Nat) (x y:Value):Sem Bool:=do
 let less ←holding [x,y] (do truthOfDropped (←richCompare .Lt x y))
 if(←hItems a).size !=size then rule "_heapq.size-changed";raiseError "RuntimeError" "list changed size during iteration"
 return less
noncomputable def hArgs (a:Addr) (down:Bool) (pos:Nat) (result:Value):Args:=⟨[.ref a,.bool false,.bool down,rawInt pos,rawInt 0,result,rawInt (-1)],[]⟩
noncomputable def hSift (a:Addr) (down:Bool) (pos:Nat) (result:Value):Sem PySem.Fin:=again (.builtin "_heapq.heapify.sift" (hArgs a down pos result))
theorem sift_down_eq (a:Addr) (pos:Nat) (result:Value):Builtin.«_heapq.heapify.sift» (hArgs a true pos result)=(do
  let xs ←hItems a
  let size:=xs.size
  if pos<size / 2 then
   let left:=2*pos+1
   let mut child:=left
   if left+1<size then
    let l ←hAt xs left
    let r ←hAt xs (left+1)
    if !(←hLess a size l r)then child:=left+1
   hSwap a child pos
   return ←hSift a true child result
  return ←hSift a false pos result):=by rfl
theorem sift_up_eq (a:Addr) (pos:Nat) (result:Value):Builtin.«_heapq.heapify.sift» (hArgs a false pos result)=(do
  let xs ←hItems a
  let size:=xs.size
  if pos>0 then
   let parent:=(pos - 1) / 2
   let x ←hAt xs pos
   let p ←hAt xs parent
   if ←hLess a size x p then
    hSwap a parent pos
    return ←hSift a false parent result
  return ←ret result):=by rfl
section
variable {A:Around} {E:Value→Shared→Prop} {s:Shared} {a:Addr} {xs:Array Value}
theorem wpAny_hItems {Q:Array Value→Shared→Prop} (hl:s.heap.IsList a xs) (h:Q xs s):wpAny (model prog w) A (hItems a) Q E s:=by
 obtain⟨o,ho,_,n,hd⟩:=hl
 unfold hItems
 exact wpAny_bind (wpAny_seqItems ho hd (wpAny_pure h))
theorem wpAny_hAt {i:Nat} {x:Value} {Q:Value→Shared→Prop} (hx:xs[i]?=some x) (h:Q x s):wpAny (model prog w) A (hAt xs i) Q E s:=by
 unfold hAt;rw [hx];exact wpAny_pure h
theorem list_upd {f:Array Value→Array Value} (hl:s.heap.IsList a xs):(s.heap.update a (Obj.mapSeq f)).IsList a (f xs):=by
 obtain⟨o,ho,hc,n,hd⟩:=hl
 obtain⟨n',hd'⟩:=Obj.data_mapSeq hd f
 exact⟨_,Heap.get?_update_self _ ho (Obj.isFreed_of_seq hd'),(Obj.cls_mapSeq ..).trans hc,n',hd'⟩
theorem wpAny_updList {f:Array Value→Array Value} {Q:Unit→Shared→Prop} (hl:s.heap.IsList a xs) (hz0:xs.size≤sizeLine) (hz:(f xs).size≤sizeLine+1)
  (h:∀h',h'.IsList a (f xs)→Heap.SameBut a s.heap h'→Q () { s with heap:=h'}):wpAny (model prog w) A (updateSeq a f) Q E s:=by
 have hu:=list_upd (f:=f) hl
 obtain⟨o,ho,hc,n,hd⟩:=hl
 exact wpAny_updateSeq ho hd (h _ hu (Heap.SameBut.update ..)) hz0 hz
theorem wpAny_hSwap {i j:Nat} {x y:Value} {Q:Unit→Shared→Prop} (hl:s.heap.IsList a xs) (hx:xs[i]?=some x) (hy:xs[j]?=some y) (hz:xs.size≤sizeLine)
  (h:∀h',h'.IsList a (sw xs i j x y)→Heap.SameBut a s.heap h'→Q () { s with heap:=h'}):wpAny (model prog w) A (hSwap a i j) Q E s:=by
 unfold hSwap
 refine wpAny_bind (wpAny_hItems hl (wpAny_bind (wpAny_hAt hx (wpAny_bind (wpAny_hAt hy ?_)))))
 exact wpAny_updList (f:=fun xs=>(xs.setIfInBounds i y).setIfInBounds j x) hl hz (by simp;exact nt187 hz) h
inductive Good (h:Heap) (key:Value→Int×Int) (v:Value):Prop
 | mk (t o p c tp tc r) (f1:v = .ref t) (f2:h.get? t=some o) (f3:TupO (.int p tp:: .int c tc::r) o) (f4:key v=(p,c)):Good h key v
theorem Good.same {h h':Heap} {key:Value→Int×Int} {v:Value} {a:Addr} {xs:Array Value} (g:Good h key v) (hs:Heap.SameBut a h h') (hl:h.IsList a xs):Good h' key v:=by
 obtain⟨t,o,p,c,tp,tc,r,rfl,ho,ht,hk⟩:=g
 refine⟨t,o,p,c,tp,tc,r,rfl,(hs.2 t fun e=>?_).trans ho,ht,hk⟩
 subst e
 obtain⟨o',ho',hc',_⟩:=hl
 rw [ho] at ho';obtain rfl:=Option.some.inj ho'
 rw [ht.1] at hc';exact absurd (Value.type.inj hc') (by decide)
variable {key:Value→Int×Int}
theorem wpAny_hLess {n:Nat} {x y:Value} {Q:Bool→Shared→Prop} (hl:s.heap.IsList a xs) (hn:xs.size=n) (gx:Good s.heap key x) (gy:Good s.heap key y) (hne:(key x).2≠(key y).2) (hu:A.units<cLine)
  (h:∀b,(b=true ↔ klt key x y)→Q b s):wpAny (model prog w) A (hLess a n x y) Q E s:=by
 obtain⟨t,o,p,c,tp,tc,r,rfl,ho,ht,hk⟩:=gx
 obtain⟨t',o',p',c',tp',tc',r',rfl,ho',ht',hk'⟩:=gy
 rw [hk,hk'] at hne
 unfold hLess
 refine wpAny_bind (wpAny_holding (wpAny_bind (tup_lt ho ho' ht ht' hne hu ?_)))
 refine wpAny_truthy_bool (wpAny_bind (wpAny_hItems hl ?_))
 rw [hn]
 simp only [bne_self_eq_false,Bool.false_eq_true,if_false]
 refine wpAny_pure (h _ ?_)
 unfold klt
 rw [hk,hk',decide_eq_true_eq]
noncomputable def Apart (key:Value→Int×Int) (xs:List Value):Prop:=(xs.map fun v=>(key v).2).Nodup
theorem Apart.perm {xs ys:List Value} (h:Apart key xs) (hp:ys.Perm xs):Apart key ys:=(hp.map _).nodup_iff.mpr h
theorem Apart.ne {xs:Array Value} (h:Apart key xs.toList) {i j:Nat} {x y:Value} (hx:xs[i]?=some x) (hy:xs[j]?=some y) (hij:i≠j):(key x).2≠(key y).2:=by
 intro e
 have h1:(xs.toList.map fun v=>(key v).2)[i]?=some (key x).2:=by rw [List.getElem?_map,Array.getElem?_toList,hx];rfl
 have h2:(xs.toList.map fun v=>(key v).2)[j]?=some (key y).2:=by rw [List.getElem?_map,Array.getElem?_toList,hy];rfl
 obtain⟨l1,g1⟩:=List.getElem?_eq_some_iff.mp h1
 obtain⟨l2,g2⟩:=List.getElem?_eq_some_iff.mp h2
 exact hij ((List.getElem_inj h).mp (by rw [g1,g2,e]))
structure HQ (key:Value→Int×Int) (h:Heap) (a:Addr) (xs:Array Value):Prop where
 list:h.IsList a xs
 good:∀v∈xs.toList,Good h key v
 apart:Apart key xs.toList
 size:xs.size≤sizeLine
theorem HQ.at {h:Heap} (H:HQ key h a xs) {i:Nat} {x:Value} (hx:xs[i]?=some x):Good h key x:=H.good x (by rw [←Array.getElem?_toList] at hx;exact List.mem_of_getElem? hx)
theorem HQ.same {h h':Heap} {ys:Array Value} (H:HQ key h a xs) (hs:Heap.SameBut a h h') (hl:h'.IsList a ys) (hp:ys.toList.Perm xs.toList):HQ key h' a ys:=
 ⟨hl,fun v hv=>(H.good v (hp.mem_iff.mp hv)).same hs H.list,H.apart.perm hp,by have:=hp.length_eq;simp only [Array.length_toList] at this;rw [this];exact H.size⟩
theorem entry_sift:entryFor table "_heapq.heapify.sift" =some Builtin.«_heapq.heapify.sift»:=entryFor_of_tree (by kernel_rfl)
theorem plain_sift:plainId "_heapq.heapify.sift" =true:=by decide +kernel
theorem sift_up {R:Result→Shared→Prop} {result:Value} (hu:A.units+1<cLine):∀(pos:Nat) (s:Shared) (xs:Array Value),HQ key s.heap a xs→UpInv key xs pos→pos<xs.size→
  (∀h' ys,HQ key h' a ys→IsHeap key ys→ys.toList.Perm xs.toList→Heap.SameBut a s.heap h'→R (.ok (.ret result)) { s with heap:=h'})→
  codeAny (model prog w) A (.builtin "_heapq.heapify.sift" (hArgs a false pos result)) R s:=by
 intro pos
 induction pos using Nat.strongRecOn with
 | ind pos ih=>
  intro s xs H I hpos hR
  refine codeAny_builtin entry_sift ?_
  rw [Around.under_plainId plain_sift,sift_up_eq]
  refine wpAny_bind (wpAny_hItems H.list ?_)
  by_cases h0:0<pos
  ·simp only [gt_iff_lt,h0,if_true]
   have hx:xs[pos]?=some xs[pos]:=by simp [hpos]
   have hpl:=par_lt h0
   have hp:xs[par pos]?=some (xs[par pos]'(nt235 hpos hpl)):=by simp
   refine wpAny_bind (wpAny_hAt hx (wpAny_bind (wpAny_hAt hp (wpAny_bind (wpAny_hLess H.list rfl (H.at hx) (H.at hp) (H.apart.ne hx hp (nt149 hpl)) (by exact hu) fun b hb=>?_)))))
   cases b with
   | true=>
    have hl:=hb.mp rfl
    simp only [if_true]
    refine wpAny_bind (wpAny_hSwap (i:=par pos) (j:=pos) H.list hp hx H.size fun h' hl' hs'=>?_)
    have hperm:=sw_perm hp hx
    have H':HQ key h' a _:=H.same hs' hl' hperm
    refine wpAny_pure ⟨plainId_quiet plain_sift _,?_⟩
    refine ih (par pos) hpl { s with heap:=h'} _ H' (up_swap I h0 hx hp hl) (by rw [sw_size];exact nt235 hpos hpl) fun h'' ys H'' hh hpp hs''=>?_
    exact hR h'' ys H'' hh (hpp.trans hperm) (hs'.trans hs'')
   | false=>
    simp only [Bool.false_eq_true,if_false]
    refine wpAny_bind (wpAny_pure (wpAny_pure ?_))
    refine hR s.heap xs H (up_stop I (.inr fun x y hx' hy'=>?_)) (List.Perm.refl _) (Heap.SameBut.refl ..)
    rw [hx] at hx';rw [hp] at hy';obtain rfl:=Option.some.inj hx';obtain rfl:=Option.some.inj hy'
    intro hk;exact absurd (hb.mpr hk) nofun
  ·simp only [gt_iff_lt,h0,if_false]
   refine wpAny_bind (wpAny_pure (wpAny_pure ?_))
   exact hR s.heap xs H (up_stop I (.inl (nt99 h0))) (List.Perm.refl _) (Heap.SameBut.refl ..)
theorem sift_down {R:Result→Shared→Prop} {result:Value} (hu:A.units+1<cLine):∀(n pos:Nat) (s:Shared) (xs:Array Value),n=xs.size - pos→HQ key s.heap a xs→DownInv key xs pos→pos<xs.size→
  (∀h' ys,HQ key h' a ys→IsHeap key ys→ys.toList.Perm xs.toList→Heap.SameBut a s.heap h'→R (.ok (.ret result)) { s with heap:=h'})→
  codeAny (model prog w) A (.builtin "_heapq.heapify.sift" (hArgs a true pos result)) R s:=by
 intro n
 induction n using Nat.strongRecOn with
 | ind n ih=>
  intro pos s xs hn H I hpos hR
  refine codeAny_builtin entry_sift ?_
  rw [Around.under_plainId plain_sift,sift_down_eq]
  refine wpAny_bind (wpAny_hItems H.list ?_)
  dsimp only
  by_cases hd:pos<xs.size / 2
  ·rw [if_pos hd]
   have hx:xs[pos]?=some xs[pos]:=by simp [hpos]
   have step:∀(child:Nat) (c:Value),par child=pos→0<child→xs[child]?=some c→(∀(i:Nat) y,0<i→par i=pos→xs[i]?=some y→¬klt key y c)→
     wpAny (model prog w) A.in1 (do hSwap a child pos;return ←hSift a true child result)
      (fun fin s'=>match fin with | .done f=>R (.ok f) s' | .again c'=>c'.quiet=true∧codeAny (model prog w) A c' R s') (fun e s'=>R (.error e) s') s:=by
    intro child c hc hc0 hch hmin
    refine wpAny_bind (wpAny_hSwap (i:=child) (j:=pos) H.list hch hx H.size fun h' hl' hs'=>?_)
    have hperm:=sw_perm hch hx
    have H':HQ key h' a _:=H.same hs' hl' hperm
    refine wpAny_pure ⟨plainId_quiet plain_sift _,?_⟩
    have hcs:child<xs.size:=(Array.getElem?_eq_some_iff.mp hch).1
    have hpl:=par_lt hc0
    refine ih (xs.size - child) (nt336 hn hpos hc hcs hpl) child { s with heap:=h'} _ (by rw [sw_size]) H' (down_swap I hc hc0 hx hch hmin) (by rw [sw_size];exact hcs) fun h'' ys H'' hh hpp hs''=>?_
    exact hR h'' ys H'' hh (hpp.trans hperm) (hs'.trans hs'')
   have hll:2*pos+1<xs.size:=nt134 hd
   have hl:xs[2*pos+1]?=some xs[2*pos+1]:=by simp [hll]
   have pl:par (2*pos+1)=pos:=by unfold par;exact nt28
   have pr:par (2*pos+1+1)=pos:=by unfold par;exact nt156 pl
   have two:∀i,0<i→par i=pos→i=2*pos+1∨i=2*pos+1+1:=fun i hi hp=>by unfold par at hp;exact nt310 pl pr hi hp
   by_cases hr:2*pos+1+1<xs.size
   ·rw [if_pos hr]
    have hrr:xs[2*pos+1+1]?=some xs[2*pos+1+1]:=by simp [hr]
    refine wpAny_bind (wpAny_hAt hl (wpAny_bind (wpAny_hAt hrr (wpAny_bind (wpAny_hLess H.list rfl (H.at hl) (H.at hrr) (H.apart.ne hl hrr nt45) (by exact hu) fun b hb=>?_)))))
    cases b with
    | true=>
     simp only [Bool.not_true,Bool.false_eq_true,if_false]
     refine step _ _ pl (nt256 pl pr) hl fun i y hi hp hy=>?_
     rcases two i hi hp with rfl | rfl
     ·rw [hl] at hy;obtain rfl:=Option.some.inj hy;unfold klt;exact nt108 hll
     ·rw [hrr] at hy;obtain rfl:=Option.some.inj hy;exact klt_asymm (hb.mp rfl)
    | false=>
     simp only [Bool.not_false,if_true]
     refine step _ _ pr (nt257 pl pr) hrr fun i y hi hp hy=>?_
     rcases two i hi hp with rfl | rfl
     ·rw [hl] at hy;obtain rfl:=Option.some.inj hy;intro hk;exact absurd (hb.mpr hk) nofun
     ·rw [hrr] at hy;obtain rfl:=Option.some.inj hy;unfold klt;exact nt107 hr
   ·rw [if_neg hr]
    refine step _ _ pl (nt256 pl pr) hl fun i y hi hp hy=>?_
    rcases two i hi hp with rfl | rfl
    ·rw [hl] at hy;obtain rfl:=Option.some.inj hy;unfold klt;exact nt108 hll
    ·have:=(Array.getElem?_eq_some_iff.mp hy).1;exact(nt291 hll pl pr hr this).elim
  ·rw [if_neg hd]
   refine wpAny_pure ⟨plainId_quiet plain_sift _,?_⟩
   exact sift_up hu pos s xs H (down_leaf I (nt192 hd)) hpos hR
end
end
end
section
set_option tactic.hygienic false
open PySem PySem.W PyProof.Rows
variable [GenI]
section
variable {prog:Program} {w:World} {A:Around} {E:Value→Shared→Prop} {s:Shared} {a:Addr} {xs:Array Value} {key:Value→Int×Int}
theorem isSub_list:isSubtype (.type "list") (.type "list")=pure true:=by rw [isSubtype_type];kernel_rfl
theorem entry_push:entryFor table "_heapq.heappush" =some Builtin.«_heapq.heappush»:=entryFor_of_tree (by kernel_rfl)
theorem kind_push:builtinKind "_heapq.heappush" =none:=by kernel_rfl
theorem plain_push:plainId "_heapq.heappush" =true:=by decide +kernel
theorem entry_pop:entryFor table "_heapq.heappop" =some Builtin.«_heapq.heappop»:=entryFor_of_tree (by kernel_rfl)
theorem kind_pop:builtinKind "_heapq.heappop" =none:=by kernel_rfl
theorem plain_pop:plainId "_heapq.heappop" =true:=by decide +kernel
theorem args_push (a b:Value):argsOk "_heapq.heappush" ⟨[a,b],[]⟩:=by unfold argsOk;kernel_rfl
theorem args_pop (a:Value):argsOk "_heapq.heappop" ⟨[a],[]⟩:=by unfold argsOk;kernel_rfl
theorem push_perm {α:Type} (xs:Array α) (x:α):(xs.push x).toList.Perm (x::xs.toList):=by
 rw [Array.toList_push];exact List.perm_append_singleton ..
theorem wpAny_heappush {item:Value} {Q:Value→Shared→Prop} (hu:A.units+3<cLine) (H:HQ key s.heap a xs) (hh:IsHeap key xs) (gi:Good s.heap key item) (hap:Apart key (item::xs.toList)) (hz:xs.size<sizeLine)
  (h:∀h' ys,HQ key h' a ys→IsHeap key ys→ys.toList.Perm (item::xs.toList)→Heap.SameBut a s.heap h'→Q .none { s with heap:=h'}):
  wpAny (model prog w) A (call (.builtin "_heapq.heappush") [.ref a,item]) Q E s:=by
 refine kmk_tree (kw:=[]) kind_push plain_push entry_push (args_push _ _) ?_
 have hT:s.TypeIs (.ref a) "list" :=H.list.typeIs
 unfold Builtin.«_heapq.heappush»
 refine wpAny_bind (wpAny_bind (m:=noKeywords "_heapq.heappush" _) (wpAny_pure (wpAny_bind (m:=checkCount "heappush" 2 2 2) (wpAny_pure (wpAny_bind (wpAny_bind (wpAny_isInstance (T:= "list") (b:=true) hT isSub_list (wpAny_pure (wpAny_pure ?_)))))))))
 refine wpAny_bind (wpAny_updList (f:=(·.push item)) H.list H.size (by simp;exact nt146 hz) fun h' hl' hs'=>?_)
 refine wpAny_bind (wpAny_hItems hl' ?_)
 show wpAny _ _ (hSift a false ((xs.push item).size - 1) .none) _ _ _
 have e:(xs.push item).size - 1=xs.size:=by simp
 rw [e]
 have hp:=push_perm xs item
 have H':HQ key h' a (xs.push item):=⟨hl',fun v hv=>by
  rcases List.mem_cons.mp (hp.mem_iff.mp hv)with rfl | hv
  ·exact gi.same hs' H.list
  ·exact(H.good v hv).same hs' H.list,hap.perm hp,by simp;exact nt234 hz e⟩
 refine wpAny_pure ⟨plainId_quiet plain_sift _,?_⟩
 exact sift_up (nt120 hu) xs.size { s with heap:=h'} _ H' (push_up hh item) (by simp) fun h'' ys H'' hh'' hpp hs''=>h h'' ys H'' hh'' (hpp.trans hp) (hs'.trans hs'')
theorem set_perm {α:Type} {y:α} {r:Array α} {z:α} (h0:r[0]?=some y):(y::(r.setIfInBounds 0 z).toList).Perm (r.push z).toList:=by
 rw [Array.toList_setIfInBounds,Array.toList_push]
 rw [←Array.getElem?_toList] at h0
 generalize r.toList=l at h0
 cases l with
 | nil=>contradiction
 | cons x l=>obtain rfl:=Option.some.inj h0;exact .cons _ (List.perm_append_singleton ..).symm
theorem pop_core {r:Array Value} {z:Value} {Q:Value→Shared→Prop} (hu:A.units+3<cLine) (H:HQ key s.heap a (r.push z)) (hh:IsHeap key (r.push z))
  (h:∀h' ys v,HQ key h' a ys→IsHeap key ys→(v::ys.toList).Perm (r.push z).toList→(∀u∈ys.toList,¬klt key u v)→Good s.heap key v→Heap.SameBut a s.heap h'→Q v { s with heap:=h'}):
  wpAny (model prog w) A (call (.builtin "_heapq.heappop") [.ref a]) Q E s:=by
 refine kmk_tree (kw:=[]) kind_pop plain_pop entry_pop (args_pop _) ?_
 have hT:s.TypeIs (.ref a) "list" :=H.list.typeIs
 have hz:=H.size
 have hz':r.size≤sizeLine:=by rw [Array.size_push] at hz;exact Nat.le_of_succ_le hz
 unfold Builtin.«_heapq.heappop»
 refine wpAny_bind (wpAny_bind (wpAny_bind (m:=noKeywords "_heapq.heappop" _) (wpAny_pure (wpAny_pure (wpAny_bind (wpAny_bind (wpAny_isInstance (T:= "list") (b:=true) hT isSub_list (wpAny_pure (wpAny_pure ?_)))))))))
 refine wpAny_bind (wpAny_hItems H.list ?_)
 rw [Array.back?_push]
 refine wpAny_bind (wpAny_updList (f:=(·.pop)) H.list hz (by rw [Array.pop_push];exact Nat.le_succ_of_le hz') fun h' hl' hs'=>?_)
 rw [Array.pop_push] at hl'
 rw [Array.size_push]
 cases h0:r[0]? with
 | none=>
  have hr:r = #[]:=Array.eq_empty_of_size_eq_zero (Nat.eq_zero_of_le_zero (Array.getElem?_eq_none_iff.mp h0))
  subst hr
  refine wpAny_bind (wpAny_pure (wpAny_pure ?_))
  exact h h' #[] z ⟨hl',fun v hv=>absurd hv List.not_mem_nil,List.nodup_nil,Nat.zero_le _⟩ (fun i hi x y hx=>by contradiction) (.refl _) (fun u hu=>absurd hu List.not_mem_nil) (H.good z (List.mem_singleton.mpr rfl)) hs'
 | some y=>
  have hne:0<r.size:=(Array.getElem?_eq_some_iff.mp h0).1
  have hb:(r.size+1 == 1)=false:=beq_eq_false_iff_ne.mpr fun q=>Nat.ne_of_gt hne (Nat.succ.inj q)
  rw [hb]
  have h0':(r.push z)[0]?=some y:=by rw [Array.getElem?_push_lt hne];exact(Array.getElem?_eq_getElem hne).symm.trans h0
  refine wpAny_bind (wpAny_hAt h0' (wpAny_bind ?_))
  refine wpAny_updList (f:=(·.setIfInBounds 0 z)) hl' hz' (by rw [Array.size_setIfInBounds];exact Nat.le_succ_of_le hz') fun h'' hl'' hs''=>?_
  have hp:=set_perm (z:=z) h0
  have memOf:∀v∈(r.setIfInBounds 0 z).toList,v∈(r.push z).toList:=fun v hv=>hp.subset (.tail _ hv)
  have H'':HQ key h'' a (r.setIfInBounds 0 z):=⟨hl'',fun v hv=>((H.good v (memOf v hv)).same hs' H.list).same hs'' hl',(List.nodup_cons.mp (H.apart.perm hp)).2,by rw [Array.size_setIfInBounds];exact hz'⟩
  refine wpAny_pure ⟨plainId_quiet plain_sift _,?_⟩
  refine sift_down (Nat.lt_of_le_of_lt (Nat.le_add_right (A.units+1) 2) hu) _ 0 { s with heap:=h''} _ rfl H'' (by have:=pop_down (x:=z) hh;rw [Array.pop_push] at this;exact this) (by rw [Array.size_setIfInBounds];exact hne) fun h₃ ys H₃ hh₃ hpp hs₃=>?_
  refine h h₃ ys _ H₃ hh₃ ((List.Perm.cons _ hpp).trans hp) (fun u hu=>?_) (H.at h0') ((hs'.trans hs'').trans hs₃)
  obtain⟨i,hi⟩:=List.mem_iff_getElem?.mp (memOf u (hpp.mem_iff.mp hu))
  rw [Array.getElem?_toList] at hi
  exact heap_min hh h0' i u hi
theorem wpAny_heappop {Q:Value→Shared→Prop} (hu:A.units+3<cLine) (H:HQ key s.heap a xs) (hh:IsHeap key xs) (hne:0<xs.size)
  (h:∀h' ys v,HQ key h' a ys→IsHeap key ys→(v::ys.toList).Perm xs.toList→(∀u∈ys.toList,¬klt key u v)→Good s.heap key v→Heap.SameBut a s.heap h'→Q v { s with heap:=h'}):
  wpAny (model prog w) A (call (.builtin "_heapq.heappop") [.ref a]) Q E s:=by
 obtain⟨r,z,rfl⟩:=Array.exists_push_of_size_pos hne
 exact pop_core hu H hh h
end
end
section
open PySem PySem.W PyProof.Rows
variable [GenI]
noncomputable abbrev StarE (es:List PySem.Expr) (env:Env):Prop:=starEach es env=es.map fun e=>(false,eval e env)
noncomputable def evL (es:List PySem.Expr) (env:Env):Sem (List Value):=spliced (es.map fun e=>(false,eval e env))
theorem backTo_of {env:Env} {pos:Pos} {es:List PySem.Expr} (h:StarE es env):backTo pos (starEach es env)=es.map fun e=>(false,eval e env):=by
 rw [h,backTo,List.map_map]
 rfl
theorem any_of {env:Env} (es:List PySem.Expr):(es.map fun e=>(false,eval e env)).any (·.1)=false:=by
 induction es with
 | nil=>rfl
 | cons e r ih=>rw [List.map_cons,List.any_cons,ih];rfl
section
variable {prog:Program} {w:World} {A:Around} {env:Env} {h:Heap} {X:Value→Heap→Prop} {P:Value→Heap→Prop} {es:List PySem.Expr} {e:PySem.Expr} {pos:Pos}
theorem Tr.ofEv {av:AV} (he:Ev prog w A env h e av) (hp:∀v,av.ok v→P v h):Tr prog w A (eval e env) h P X:=
 fun g d tk os Q _ hg hq _=>he g d tk os Q _ fun v tk' hv=>hq v h g tk' hg (hp v hv)
theorem Tr.evNil {P:List Value→Heap→Prop} (hp:P [] h):Tr prog w A (evL [] env) h P X:=fun _ _ _ _ _ _ hg hq _=>wpAny_pure (hq _ _ _ _ hg hp)
theorem Tr.evCons {P:List Value→Heap→Prop} (h1:Tr prog w A (eval e env) h (fun v h1=>Tr prog w A (evL es env) h1 (fun vs h2=>P (v::vs) h2) X) X):Tr prog w A (evL (e::es) env) h P X:=
 fun g d tk os Q E hg hq he=>Calls.spliced_cons (h1 g d tk os _ E hg (fun v h1 g1 tk1 hg1 k=>k g1 d tk1 os _ E hg1 (fun vs h2 g2 tk2 hg2 hp=>hq _ h2 g2 tk2 hg2 hp) he) he)
theorem Tr.evE {P:List Value→Heap→Prop} {av:AV} (he:Ev prog w A env h e av) (k:∀v,av.ok v→Tr prog w A (evL es env) h (fun vs h2=>P (v::vs) h2) X):Tr prog w A (evL (e::es) env) h P X:=
 .evCons (.ofEv he k)
theorem Tr.listD (h1:Tr prog w A (evL es env) h (fun vs h1=>vs.length≤sizeLine∧P (.ref h1.objs.size) (h1.push { cls:= .type "list",data:= .seq vs.toArray})) X) (hn:StarE es env:=by rfl):
  Tr prog w A (eval (.List es pos) env) h P X:=
 fun g d tk os Q E hg hq he=>wpAny_List (by rw [backTo_of hn];exact h1 g d tk os _ E hg (fun vs h1 g1 tk1 hg1 k=>⟨k.1,hq _ _ g1 tk1 hg1 k.2⟩) he)
theorem Tr.tupleD {k:Nat} (h1:Tr prog w A (evL es env) h (fun vs h1=>vs.length≤sizeLine∧P (.ref h1.objs.size) (h1.push { cls:= .type "tuple",data:= .seq vs.toArray})) X) (hn:StarE es env:=by rfl):
  Tr prog w A (eval (.Tuple es k pos) env) h P X:=
 fun g d tk os Q E hg hq he=>wpAny_Tuple (by rw [backTo_of hn];exact h1 g d tk os _ E hg (fun vs h1 g1 tk1 hg1 k=>⟨k.1,hq _ _ g1 tk1 hg1 k.2⟩) he)
theorem Tr.dict0 (hp:P (.ref h.objs.size) (h.push { cls:= .type "dict",data:= .dict #[]})):Tr prog w A (eval (.Dict [] [] pos) env) h P X:=
 fun _ _ _ _ _ _ hg hq _=>wpAny_Dict_empty (hq _ _ _ _ hg hp)
theorem evalArgs_none' {M:Model} {E:Value→Shared→Prop} {s:Shared} {f:Value} {Q:Args→Shared→Prop} (h:wpAny M A (spliced []) (fun vs s'=>Q ⟨vs,[]⟩ s') E s):wpAny M A (evalArgs f true [] []) Q E s:=by
 unfold evalArgs
 show wpAny M A (spliced [] >>= _) Q E s
 refine wpAny_bind (wpAny_mono h (fun vs s' h'=>?_) fun _ _ x=>x)
 refine wpAny_holding ?_
 exact wpAny_bind (wpAny_pure (wpAny_bind (wpAny_pure (wpAny_pure h'))))
noncomputable def Kp (prog:Program) (w:World) (h:Heap) (f:Value):Prop:=∃k,(k=Keeper.frame∨k=Keeper.machine∨k=Keeper.boundFrame)∧Looks (model prog w) h (keeperOf f) k
theorem Kp.builtin {id:String}:Kp prog w h (.builtin id):=⟨.machine,.inr (.inl rfl),Looks.of_pure rfl⟩
theorem Kp.fn {a:Addr} {o:Obj} {fd:FuncData} (e:h.get? a=some o) (hd:o.data = .func fd):Kp prog w h (.ref a):=by
 refine⟨.frame,.inl rfl,(Looks.ld (part:=none) e).andThen ?_⟩
 obtain⟨_,_,dd,_⟩:=o
 cases hd
 exact .now
theorem Kp.inK {K:Frag} {f:Value} (x:K.In h) (e:keepIn K f=true):Kp prog w h f:=keeps_K e h x
theorem Tr.callWith {f:Value} {first:List Value} (h1:Tr prog w A (evL es env) h (fun vs h1=>Kp prog w h1 f∧Tr prog w A (call f (first++vs)) h1 P X) X) (hn:StarE es env:=by rfl):
  Tr prog w A (callWith pos f first (backTo pos (starEach es env)) []) h P X:=by
 intro g d tk os Q E hg hq he
 rw [backTo_of hn]
 refine callWith_of (P:=fun h=>Kp prog w h f) (by rw [any_of];rfl) (fun h hh=>hh) ?_
 cases es with
 | nil=>exact evalArgs_none' (h1 g d tk os _ E hg (fun vs h1 g1 tk1 hg1 k=>⟨k.1,k.2 g1 d tk1 os Q E hg1 hq he⟩) he)
 | cons e r=>exact Calls.evalArgs_plain (h1 g d tk os _ E hg (fun vs h1 g1 tk1 hg1 k=>⟨k.1,k.2 g1 d tk1 os Q E hg1 hq he⟩) he)
theorem Tr.callName {x:Str} {np:Pos} {f:Value} (hf:Ev prog w A env h (.Name x np) (.val f)) (h1:Tr prog w A (evL es env) h (fun vs h1=>Kp prog w h1 f∧Tr prog w A (call f vs) h1 P X) X) (hn:StarE es env:=by rfl):
  Tr prog w A (eval (.Call (.Name x np) es [] pos) env) h P X:=
 fun g d tk os Q E hg hq he=>wpAny_Call_NameR (hf g d tk os _ E fun v tk' hv=>by
  have hv':v=f:=hv
  subst hv'
  exact Tr.callWith (first:=[]) h1 hn g d tk' os Q E hg hq he)
noncomputable def Gm (prog:Program) (w:World) (h:Heap) (o:Value) (name:Str) (f:Value) (first:List Value):Prop:=
 ∀(A:Around) (g:Array GenState) (d:Drawn) (tk:Nat) (os:OsState) (Q:Value×List Value→Shared→Prop) (E:Value→Shared→Prop) (pl:Sem Bool),(∀tk',Q (f,first) ⟨h,g,d,tk',os⟩)→
  wpAny (model prog w) A (getMethod o name pl) Q E ⟨h,g,d,tk,os⟩
theorem Tr.callMeth {o:PySem.Expr} {name:Str} {apos:Pos} {ov f:Value} {first:List Value} (ho:Ev prog w A env h o (.val ov)) (hm:Gm prog w h ov name f first)
  (h1:Tr prog w A (evL es env) h (fun vs h1=>Kp prog w h1 f∧Tr prog w A (call f (first++vs)) h1 P X) X)
  (hbase:attributeBase o name env (eval o env)=eval o env:=by rfl) (hfew:decide (es.length+0+0<30)=true:=by rfl) (hline:(apos.endLine == pos.line)=true:=by rfl) (hn:StarE es env:=by rfl):
  Tr prog w A (eval (.Call (.Attribute o name apos) es [] pos) env) h P X:=by
 intro g d tk os Q E hg hq he
 rw [arm_eval_Call,hbase]
 refine wpAny_bind (ho g d tk os _ E fun v tk' hv=>?_)
 have hv':v=ov:=hv
 subst hv'
 refine wpAny_bind (wpAny_standAt ?_)
 have hform:methodCallForm (es.length+([]:List Keyword).length) (backTo pos (starEach es env)) (backToKw pos (keywordEach [] env))=true:=by
  rw [backTo_of hn]
  unfold methodCallForm
  have:=any_of (env:=env) es
  rw [show(es.map fun e=>(false,eval e env)).all (fun x=>!x.1)=true from by rw [List.all_eq_not_any_not];simpa using this]
  exact hfew
 have hpos:methodCallPos true o env apos pos=(Pure.pure pos:Sem Pos):=by unfold methodCallPos;simp [hline]
 unfold methodCall
 rw [hform]
 refine wpAny_bind (wpAny_holding (hm A g d tk' os _ E _ fun tk2=>?_))
 exact wpAny_bind (wpAny_of_eq hpos (Tr.callWith (first:=first) h1 hn g d tk2 os Q E hg hq he))
noncomputable def Ga (prog:Program) (w:World) (h:Heap) (o:Value) (name:Str) (v:Value):Prop:=
 ∀(A:Around) (g:Array GenState) (d:Drawn) (tk:Nat) (os:OsState) (Q:Value→Shared→Prop) (E:Value→Shared→Prop) (b:Bool),(∀tk',Q v ⟨h,g,d,tk',os⟩)→
  wpAny (model prog w) A (getAttr o name b) Q E ⟨h,g,d,tk,os⟩
theorem Ev.attr {o:PySem.Expr} {name:Str} {ov v:Value} (ho:Ev prog w A env h o (.val ov)) (hm:Ga prog w h ov name v)
  (he:eval (.Attribute o name pos) env=(do
   let o' ←eval o env
   standAt pos.atName
   let r ←holding [o'] (getAttr o' name true)
   letTemporaryGo o o' r
   pure r):=by with_unfolding_all rfl):Ev prog w A env h (.Attribute o name pos) (.val v):=
 fun g d tk os Q E hq=>Attribute_any_ (ho g d tk os _ E fun v' tk' hv=>by
  have hv':v'=ov:=hv
  subst hv'
  exact hm A g d tk' os Q E true fun tk2=>hq _ _ rfl) he
end
theorem execs_append {env:Env} {b:List Stmt} (a:List Stmt):execs (a++b) env=(execs a env >>= fun f=>match f with | .next=>execs b env | f=>pure f):=by
 induction a with
 | nil=>rw [List.nil_append,execs_nil,pure_bind]
 | cons st r ih=>
  rw [List.cons_append,execs_cons,execs_cons,bind_assoc]
  refine congrArg _ (funext fun f=>?_)
  cases f with
  | next=>exact ih
  | _=>rw [pure_bind]
theorem wpAny_If_app {M:Model} {A:Around} {env:Env} {E:Value→Shared→Prop} {Q:Flow→Shared→Prop} {c:PySem.Expr} {b1 b2 rest:List Stmt} {pos:Pos} {s:Shared}
  (h:wpAny M A (isTrue c env (eval c env)) (fun b s₂=>if b then wpAny M A (execs (b1++rest) env) Q E s₂ else wpAny M A (execs (b2++rest) env) Q E s₂) E s):wpAny M A (execs (.If c b1 b2 pos::rest) env) Q E s:=by
 rw [execs_cons,exec_If,bind_assoc]
 refine wpAny_bind (wpAny_standAt ?_)
 rw [bind_assoc]
 refine wpAny_bind (wpAny_mono h (fun b s₂ h₂=>?_) fun _ _ x=>x)
 cases b <;> rw [execs_append,execs_append] at h₂ <;> exact h₂
section
variable {prog:Program} {w:World} {A:Around} {env:Env} {h:Heap} {X:Value→Heap→Prop} {P:Flow→Heap→Prop} {rest:List Stmt} {st:Stmt} {B:PM} {ms:List (Addr×OP)} {L:Addr} {nms:List Str} {avs:List AV} {pos:Pos}
theorem Cd.nil (hp:P .next h):Tr prog w A (execs [] env) h P X:=fun _ _ _ _ _ _ hg hq _=>wpAny_execs_nil (hq _ _ _ _ hg hp)
theorem Cd.cons {R:Flow→Heap→Prop} (h1:Tr prog w A (exec st env) h R X) (k:∀f h',R f h'→(f = .next∧Tr prog w A (execs rest env) h' P X)∨(f≠ .next∧P f h')):Tr prog w A (execs (st::rest) env) h P X:=
 fun g d tk os Q E hg hq he=>wpAny_execs_cons (h1 g d tk os _ E hg (fun f h' g' tk' hg' r=>by
  rcases k f h' r with⟨rfl,k⟩ | ⟨hf,k⟩
  ·exact k g' d tk' os Q E hg' hq he
  ·cases f <;> first | exact absurd rfl hf | exact hq _ _ _ _ hg' k) he)
theorem Cd.step {R:Heap→Prop} (h1:Tr prog w A (exec st env) h (fun f h'=>f = .next∧R h') X) (k:∀h',R h'→Tr prog w A (execs rest env) h' P X):Tr prog w A (execs (st::rest) env) h P X:=
 Cd.cons h1 fun _ h' r=>.inl ⟨r.1,k h' r.2⟩
theorem kind_ok (O:EnvOk env L nms):(env.scope.kind == .class || (env.scope.kind == .module && env.locals !=env.globals))=false:=by rw [O.kind];rfl
theorem store_at (O:EnvOk env L nms) (S:St B ((L,FrameO nms avs)::ms) h) {i:Nat} {x:Str} (hx:nms[i]?=some x) {v:Value} {av:AV} (hv:av.ok v) (hnd:nms.Nodup) {g:Array GenState} {d:Drawn} {tk:Nat} {os:OsState} {Q:Unit→Shared→Prop} {E:Value→Shared→Prop}
  (k:∀h' tk',St B ((L,FrameO nms (avs.set i av))::ms) h'→Q () ⟨h',g,d,tk',os⟩):wpAny (model prog w) A (storeName env x v) Q E ⟨h,g,d,tk,os⟩:=by
 obtain⟨m,hm,hf⟩:=frame_at S
 refine wpAny_storeName_local (O.at hx) (by rw [O.loc];exact hm) (fun h' hn hs=>?_) (kind_ok O)
 rw [O.loc] at hn hs
 obtain⟨o,ho,hno⟩:=ns_iff.mp hn
 refine k h' _ (S.upd (i:=0) (P':=FrameO nms (avs.set i av)) rfl hs ho ⟨_,hno,fun j y a hy ha=>?_⟩)
 rw [List.getElem?_set] at ha
 split at ha
 ·rename_i hij
  subst hij
  split at ha
  ·obtain rfl:=Option.some.inj ha
   rw [hx] at hy
   obtain rfl:=Option.some.inj hy
   rw [if_pos rfl]
   exact AV.inn_of_ok hv
  ·contradiction
 ·rename_i hij
  have hne:y≠x:=fun e=>by
   subst e
   obtain⟨l1,e1⟩:=List.getElem?_eq_some_iff.mp hx
   obtain⟨l2,e2⟩:=List.getElem?_eq_some_iff.mp hy
   exact hij ((List.getElem_inj hnd).mp (e1.trans e2.symm))
  rw [if_neg hne]
  exact hf j y a hy ha
inductive AsgP (prog:Program) (w:World) (A:Around) (env:Env) (X:Value→Heap→Prop) (P:Flow→Heap→Prop) (L:Addr) (nms:List Str) (rest:List Stmt) (i:Nat) (v:Value) (h1:Heap):Prop
 | mk (B:PM) (ms:List (Addr×OP)) (avs:List AV) (av:AV) (S:St B ((L,FrameO nms avs)::ms) h1) (ok:av.ok v) (k:∀h2,St B ((L,FrameO nms (avs.set i av))::ms) h2→Tr prog w A (execs rest env) h2 P X)
theorem Cd.assign {x:Str} {p1:Pos} {e:PySem.Expr} (O:EnvOk env L nms) (i:Nat) (hx:nms[i]?=some x)
  (h1:Tr prog w A (eval e env) h (AsgP prog w A env X P L nms rest i) X)
  (hnd:nms.Nodup:=by decide) (hs:swapsWith e (some (.Name x p1)) pos.line env=pure false:=by rfl):Tr prog w A (execs (.Assign [.Name x p1] e pos::rest) env) h P X:=
 fun g d tk os Q E hg hq he=>wpAny_execs_cons (wpAny_Assign_Name (h1 g d tk os _ E hg (fun v h1 g1 tk1 hg1 ⟨B,ms,avs,av,S,hv,k⟩=>store_at O S hx hv hnd fun h2 tk2 S2=>k h2 S2 g1 d tk2 os Q E hg1 hq he) he) hs)
theorem Cd.assignE {x:Str} {p1:Pos} {e:PySem.Expr} (O:EnvOk env L nms) (S:St B ((L,FrameO nms avs)::ms) h) (i:Nat) (hx:nms[i]?=some x) {av:AV} (he:Ev prog w A env h e av)
  (k:∀h2,St B ((L,FrameO nms (avs.set i av))::ms) h2→Tr prog w A (execs rest env) h2 P X)
  (hnd:nms.Nodup:=by decide) (hs:swapsWith e (some (.Name x p1)) pos.line env=pure false:=by rfl):Tr prog w A (execs (.Assign [.Name x p1] e pos::rest) env) h P X:=
 Cd.assign O i hx (.ofEv he fun v hv=>⟨B,ms,avs,av,S,hv,k⟩) hnd hs
theorem Cd.expr {e:PySem.Expr} (h1:Tr prog w A (eval e env) h (fun v h1=>Tr prog w A (execs rest env) h1 P X) X) (hi:interactive env=false:=by rfl) (hs:swapsWith e none pos.line env=pure false:=by rfl):
  Tr prog w A (execs (.Expr e pos::rest) env) h P X:=
 fun g d tk os Q E hg hq he=>wpAny_execs_cons (wpAny_Expr_any (h1 g d tk os _ E hg (fun v h1 g1 tk1 hg1 k=>k g1 d tk1 os Q E hg1 hq he) he) hi hs)
theorem Cd.ret {e:PySem.Expr} (h1:Tr prog w A (eval e env) h (fun v h1=>P (.ret v) h1) X):Tr prog w A (execs (.Return (some e) pos::rest) env) h P X:=
 fun g d tk os Q E hg hq he=>wpAny_execs_cons (wpAny_Return_some (h1 g d tk os _ E hg (fun v h1 g1 tk1 hg1 k=>hq _ _ _ _ hg1 k) he))
theorem Cd.retE {e:PySem.Expr} {av:AV} (h1:Ev prog w A env h e av) (k:∀v,av.ok v→P (.ret v) h):Tr prog w A (execs (.Return (some e) pos::rest) env) h P X:=Cd.ret (.ofEv h1 k)
theorem Cd.cont (k:P .cont h):Tr prog w A (execs (.Continue pos::rest) env) h P X:=
 fun g d tk os Q E hg hq he=>wpAny_execs_cons (wpAny_Continue (hq _ _ _ _ hg k))
theorem Et.tr {c:PySem.Expr} {b:Bool} {P:Bool→Heap→Prop} (hc:Et prog w A env h c b) (hp:P b h):Tr prog w A (isTrue c env (eval c env)) h P X:=
 fun g d tk os Q _ hg hq _=>hc g d tk os Q _ fun tk'=>hq _ _ _ _ hg hp
theorem Cd.if_ {c:PySem.Expr} {b1 b2:List Stmt} {R:Flow→Heap→Prop} (hc:Tr prog w A (isTrue c env (eval c env)) h (fun b h1=>if b then Tr prog w A (execs b1 env) h1 R X else Tr prog w A (execs b2 env) h1 R X) X)
  (k:∀f h',R f h'→(f = .next∧Tr prog w A (execs rest env) h' P X)∨(f≠ .next∧P f h')):Tr prog w A (execs (.If c b1 b2 pos::rest) env) h P X:=by
 refine Cd.cons (R:=R) (fun g d tk os Q E hg hq he=>wpAny_If (hc g d tk os _ E hg (fun b h1 g1 tk1 hg1 k1=>?_) he)) k
 cases b
 ·exact(show Tr prog w A (execs b2 env) h1 R X from k1) g1 d tk1 os Q E hg1 hq he
 ·exact(show Tr prog w A (execs b1 env) h1 R X from k1) g1 d tk1 os Q E hg1 hq he
theorem Cd.ifT {c:PySem.Expr} {b1 b2:List Stmt} (hc:Et prog w A env h c true) (k:Tr prog w A (execs (b1++rest) env) h P X):Tr prog w A (execs (.If c b1 b2 pos::rest) env) h P X:=by
 intro g d tk os Q E hg hq he
 exact wpAny_If_app (hc g d tk os _ E fun tk'=>k g d tk' os Q E hg hq he)
theorem Cd.ifF {c:PySem.Expr} {b1 b2:List Stmt} (hc:Et prog w A env h c false) (k:Tr prog w A (execs (b2++rest) env) h P X):Tr prog w A (execs (.If c b1 b2 pos::rest) env) h P X:=by
 intro g d tk os Q E hg hq he
 exact wpAny_If_app (hc g d tk os _ E fun tk'=>k g d tk' os Q E hg hq he)
end
end
section
set_option tactic.hygienic false
open PySem PySem.W PyProof.Rows
variable [GenI]
section
variable {B:PM} {ms:List (Addr×OP)} {h h':Heap}
theorem St.updMid {f t:List (Addr×OP)} {a:Addr} {P P':OP} {o':Obj} (S:St B (f++(a,P)::t) h) (hs:∀b o,b≠a→h.get? b=some o→h'.get? b=some o) (ho:h'.get? a=some o') (hP:P' o'):St B (f++(a,P')::t) h':=by
 have nd:=S.nd
 rw [List.map_append,List.map_cons] at nd
 have hd:=List.nodup_append.mp nd
 have ha:a∉t.map (·.1):=(List.nodup_cons.mp hd.2.1).1
 have hf:a∉f.map (·.1):=fun q=>hd.2.2 a q a (List.mem_cons_self ..) rfl
 have other:∀p,p∈f∨p∈t→p.1≠a:=fun p hp e=>by
  rcases hp with hp | hp
  ·exact hf (e▸List.mem_map_of_mem hp)
  ·exact ha (e▸List.mem_map_of_mem hp)
 have split:∀{Z:OP} (p),p∈f++(a,Z)::t→p=(a,Z)∨((p∈f∨p∈t)):=fun p hp=>by
  rcases List.mem_append.mp hp with hp | hp
  ·exact .inr (.inl hp)
  ·rcases List.mem_cons.mp hp with rfl | hp
   ·exact .inl rfl
   ·exact .inr (.inr hp)
 have back:∀p,p∈f∨p∈t→p∈f++(a,P)::t:=fun p hp=>by
  rcases hp with hp | hp
  ·exact List.mem_append_left _ hp
  ·exact List.mem_append_right _ (.tail _ hp)
 have self:(a,P)∈f++(a,P)::t:=List.mem_append_right _ (.head _)
 refine⟨fun b o e=>hs b o (fun q=>by have:=S.off _ self;dsimp only at this;rw [q,this] at e;contradiction) (S.keep b o e),fun p hp=>?_,fun p hp=>?_,by rw [List.map_append,List.map_cons];exact nd,fun p hp=>?_,S.st2⟩
 ·rcases split p hp with rfl | hp
  ·exact⟨o',ho,hP⟩
  ·obtain⟨o,ho,r⟩:=S.own p (back p hp)
   exact⟨o,hs _ _ (other p hp) ho,r⟩
 ·rcases split p hp with rfl | hp
  ·exact S.off (a,P) self
  ·exact S.off p (back p hp)
 ·rcases split p hp with rfl | hp
  ·exact S.low (a,P) self
  ·exact S.low p (back p hp)
theorem St.dropMid {f t:List (Addr×OP)} {p:Addr×OP} (S:St B (f++p::t) h):St B (f++t) h:=
 S.dropTo _ (List.Sublist.append_left (List.sublist_cons_self ..) f)
theorem St.pushMid {f t:List (Addr×OP)} {o:Obj} {P:OP} (S:St B (f++t) h) (hP:P o) (hf:o.isFreed=false:=by rfl):St B (f++(h.objs.size,P)::t) (h.push o):=
 (S.pushM hP hf).perm List.perm_middle
theorem St.ext' {ms:List (Addr×OP)} (S:St B ms h) (hk:∀b o,((∃o',B b=some o')∨b∈ms.map (·.1))→h.get? b=some o→h'.get? b=some o):St B ms h':=
 ⟨fun a o e=>hk a o (.inl ⟨o,e⟩) (S.keep a o e),fun p hp=>let ⟨o,ho,r⟩:=S.own p hp;⟨o,hk _ _ (.inr (List.mem_map_of_mem hp)) ho,r⟩,S.off,S.nd,S.low,S.st2⟩
theorem St.dropUpd {f t:List (Addr×OP)} {a:Addr} {P:OP} (S:St B (f++(a,P)::t) h) (hs:∀b o,b≠a→h.get? b=some o→h'.get? b=some o):St B (f++t) h':=by
 refine(St.dropMid S).ext' fun b o hb e=>hs b o (fun q=>?_) e
 subst q
 rcases hb with⟨o',hb⟩ | hb
 ·have:=S.off (b,P) (List.mem_append_right _ (.head _))
  dsimp only at this
  rw [this] at hb;contradiction
 ·have nd:=S.nd
  rw [List.map_append,List.map_cons] at nd
  have hd:=List.nodup_append.mp nd
  rw [List.map_append] at hb
  rcases List.mem_append.mp hb with hb | hb
  ·exact hd.2.2 b hb b (List.mem_cons_self ..) rfl
  ·exact(List.nodup_cons.mp hd.2.1).1 hb
theorem St.getMid {f t:List (Addr×OP)} {a:Addr} {P:OP} (S:St B (f++(a,P)::t) h):∃o,h.get? a=some o∧P o:=S.own (a,P) (List.mem_append_right _ (.head _))
end
section
variable {prog:Program} {w:World} {A:Around} {env:Env} {h:Heap} {X:Value→Heap→Prop} {P:Flow→Heap→Prop} {rest body:List Stmt} {B:PM} {ms:List (Addr×OP)} {L:Addr} {nms:List Str} {avs:List AV} {pos:Pos}
theorem mark_none:A.mark none=A:=rfl
inductive WhI (I:Nat→Heap→Prop) (d:Drawn) (os:OsState) (n:Nat) (s:Shared):Prop
 | mk (h:Heap) (g:Array GenState) (tk:Nat) (e:s=⟨h,g,d,tk,os⟩) (hg:GenI.ok g) (i:I n h)
inductive WhP (I:Nat→Heap→Prop) (n:Nat) (h:Heap):Prop
 | mk (m:Nat) (lt:m<n) (i:I m h)
theorem Cd.while_ {test:PySem.Expr} (I:Nat→Heap→Prop) {n:Nat} (hI:I n h)
  (turn:∀n,let PP:Flow→Heap→Prop:=fun f h3=>match f with
    | .next | .cont=>WhP I n h3
    | .brk=>False
    | .ret v=>P (.ret v) h3
   ∀h1,I n h1→Tr prog w A (isTrue test env (eval test env)) h1 (fun b h2=>if b then Tr prog w A (execs body env) h2 PP noX else Tr prog w A (execs rest env) h2 P X) noX):Tr prog w A (execs (.While test body [] pos::rest) env) h P X:=by
 intro g d tk os Q E hg hq he
 refine wpAny_execs_cons (wpAny_While ?_)
 refine codeAny_whileLoop (WhI I d os) (fun n s hs=>?_) n ⟨h,g,tk,rfl,hg,hI⟩
 obtain⟨h1,g1,tk1,rfl,hg1,hI1⟩:=hs
 refine turn n h1 hI1 g1 d tk1 os _ _ hg1 (fun b h2 g2 tk2 hg2 k=>?_) (fun _ _ _ _ _ x=>x.elim)
 cases b with
 | false=>
  refine wpAny_execs_nil ?_
  exact(show Tr prog w A (execs rest env) h2 P X from k) g2 d tk2 os Q E hg2 hq he
 | true=>
  refine(show Tr prog w A (execs body env) h2 _ noX from k) g2 d tk2 os _ _ hg2 (fun f h3 g3 tk3 hg3 r=>?_) (fun _ _ _ _ _ x=>x.elim)
  cases f with
  | next=>obtain⟨m,hm,r⟩:=r;exact⟨m,hm,h3,g3,tk3,rfl,hg3,r⟩
  | cont=>obtain⟨m,hm,r⟩:=r;exact⟨m,hm,h3,g3,tk3,rfl,hg3,r⟩
  | brk=>exact r.elim
  | ret v=>exact hq _ _ _ _ hg3 r
noncomputable def Turns (prog:Program) (w:World) (target:PySem.Expr) (xv:Value) (n:Nat) (P:Nat→Value→Heap→Prop) (B:PM) (h:Heap):Prop:=
 ∀(A:Around) (g:Array GenState) (d:Drawn) (tk:Nat) (os:OsState) (Q:Value→Shared→Prop) (E:Value→Shared→Prop),A.handled=none→
  (∀I fp Md Sx h' tk' o,KTurns prog w A target I fp [I] n P Md Sx→(∀b∈fp,b=I∨∃o,B b=some o)→Sx 0 h'→(∀i h,Sx i h→∃o,h.get? I=some o)→h.get? I=none→(∀b o,h.get? b=some o→h'.get? b=some o)→h'.get? I=some o→2<I→Q (.ref I) ⟨h',g,d,tk',os⟩)→
  wpAny (model prog w) A (pyIter xv) Q E ⟨h,g,d,tk,os⟩
inductive ForH (prog:Program) (w:World) (target:PySem.Expr) (L:Addr) (nms:List Str) (tail:List (Addr×OP)) (n:Nat) (PI:Nat→Value→Heap→Prop) (J:Nat→PM→List (Addr×OP)→List AV→Prop) (xv:Value) (h1:Heap):Prop
 | mk (B:PM) (front:List (Addr×OP)) (avs:List AV) (S:St B ((L,FrameO nms avs)::(front++tail)) h1) (j:J 0 B front avs) (T:Turns prog w target xv n PI B h1) (mono:∀i B' front' avs',J i B' front' avs'→B.le B')
inductive ForP (L:Addr) (nms:List Str) (tl:List (Addr×OP)) (J:PM→List (Addr×OP)→List AV→Prop) (h3:Heap):Prop
 | mk (B:PM) (front:List (Addr×OP)) (avs:List AV) (S:St B ((L,FrameO nms avs)::(front++tl)) h3) (j:J B front avs)
inductive ForI (L:Addr) (nms:List Str) (tl:List (Addr×OP)) (J:Nat→PM→List (Addr×OP)→List AV→Prop) (n:Nat) (Sx:Nat→Heap→Prop) (d:Drawn) (os:OsState) (k:Nat) (s:Shared):Prop
 | mk (h:Heap) (g:Array GenState) (tk i:Nat) (e:s=⟨h,g,d,tk,os⟩) (hg:GenI.ok g) (hi:i≤n) (hk:k=n - i) (sx:Sx i h) (p:ForP L nms tl (J i) h)
theorem Cd.for_ {target iter:PySem.Expr} {tail:List (Addr×OP)} (hh:A.handled=none) (n:Nat) (PI:Nat→Value→Heap→Prop) (J:Nat→PM→List (Addr×OP)→List AV→Prop)
  (hit:Tr prog w A (eval iter env) h (ForH prog w target L nms tail n PI J) X)
  (turn:∀i v I q,let PP:Flow→Heap→Prop:=fun f h3=>match f with
    | .next | .cont=>ForP L nms ((I,q)::tail) (J (i+1)) h3
    | .brk=>False
    | .ret v=>P (.ret v) h3
   ∀B front avs h1,i<n→PI i v h1→J i B front avs→St B ((L,FrameO nms avs)::(front++(I,q)::tail)) h1→
   Tr prog w A (PySem.assign target env v) h1 (fun _ h2=>Tr prog w A (execs body env) h2 PP noX) noX)
  (fin:∀B front avs h1,J n B front avs→St B ((L,FrameO nms avs)::(front++tail)) h1→Tr prog w A (execs rest env) h1 P X)
  (hs:∀x,foldedSetIterable iter env x=pure x:=by intro _;rfl):Tr prog w A (execs (.For target iter body [] pos::rest) env) h P X:=by
 intro g d tk os Q E hg hq he
 refine wpAny_execs_cons (wpAny_For (hit g d tk os _ E hg (fun xv h1 g1 tk1 hg1 zq0=>?_) he) hs)
 obtain⟨B,front,avs,S,hJ,T,mono⟩:=zq0
 refine T A g1 d tk1 os _ E hh fun I fp Md Sx h2 tk2 oI W hfp hsx hat hIn hk2 hIo hI2=>?_
 have S2:St B ((L,FrameO nms avs)::(front++(I,fun _=>True)::tail)) h2:=
  (S.newM (P:=fun _=>True) hIn hk2 hIo trivial hI2).perm (List.perm_middle (l₁:=(L,FrameO nms avs)::front))
 have hLI:∀{B:PM} {front:List (Addr×OP)} {avs} {q} {h},St B ((L,FrameO nms avs)::(front++(I,q)::tail)) h→∀{b o},B b=some o→b≠I:=fun S b o e q=>by
  have:=S.off (I,_) (.tail _ (List.mem_append_right _ (.head _)))
  dsimp only at this
  rw [q,this] at e;contradiction
 refine codeAny_forLoop_any (ForI L nms ((I,fun _=>True)::tail) J n Sx d os) (fun k s hs=>?_) n
  ⟨h2,g1,tk2,0,rfl,hg1,Nat.zero_le _,rfl,hsx,B,front,avs,S2,hJ⟩
 obtain⟨h3,g3,tk3,i,rfl,hg3,hi,rfl,hsx3,B3,front3,avs3,S3,hJ3⟩:=hs
 have hB3:B.le B3:=mono _ _ _ _ hJ3
 have upd:∀{h4:Heap} {o4:Obj},(∀b o,b∉[I]→h3.get? b=some o→h4.get? b=some o)→h4.get? I=some o4→St B3 ((L,FrameO nms avs3)::(front3++(I,fun o=>o=o4)::tail)) h4:=fun {h4 o4} hk ho=>
  St.updMid (f:=(L,FrameO nms avs3)::front3) (P:=fun _=>True) S3 (fun b o hb e=>hk b o (by simpa using hb) e) ho rfl
 by_cases hlt:i<n
 ·refine W.item i _ _ _ hlt hsx3 fun v h4 tk4 hMd hk4=>?_
  refine W.go i v _ _ _ hMd fun h5 hP5 hsx5 hk5=>?_
  have hk45:∀b o,b∉[I]→h3.get? b=some o→h5.get? b=some o:=fun b o hb e=>hk5 b o hb (hk4 b o hb e)
  obtain⟨o5,ho5⟩:=hat _ _ hsx5
  have S5:=upd hk45 ho5
  refine turn i v I (fun o=>o=o5) B3 front3 avs3 h5 hlt hP5 hJ3 S5 g3 d tk4 os _ _ hg3 (fun _ h6 g6 tk6 hg6 k6=>?_) (fun _ _ _ _ _ x=>x.elim)
  refine k6 g6 d tk6 os _ _ hg6 (fun f h7 g7 tk7 hg7 r=>?_) (fun _ _ _ _ _ x=>x.elim)
  have nxt:ForP L nms ((I,fun o=>o=o5)::tail) (J (i+1)) h7→∃m,m<n - i∧ForI L nms ((I,fun _=>True)::tail) J n Sx d os m ⟨h7,g7,d,tk7,os⟩:=by
   rintro⟨B',front',avs',S7,hJ7⟩
   obtain⟨o7,ho7,e7⟩:=St.getMid (f:=(L,FrameO nms avs')::front') S7
   have e7':o7=o5:=e7
   subst e7'
   refine⟨n - (i+1),by exact nt147 hlt,h7,g7,tk7,i+1,rfl,hg7,hlt,rfl,W.frame _ _ _ hsx5 (fun b hb o e=>?_),B',front',avs',St.updMid (f:=(L,FrameO nms avs')::front') (P':=fun _=>True) S7 (fun _ _ _ e=>e) ho7 trivial,hJ7⟩
   rcases hfp b hb with rfl | ⟨ob,hob⟩
   ·rw [ho5] at e;obtain rfl:=Option.some.inj e;exact ho7
   ·have e1:=S5.keep b ob (hB3 b ob hob)
    rw [e1] at e;obtain rfl:=Option.some.inj e
    exact S7.keep b _ (mono _ _ _ _ hJ7 b _ hob)
  cases f with
  | next=>exact nxt r
  | cont=>exact nxt r
  | brk=>exact r.elim
  | ret v=>exact hq _ _ _ _ hg7 r
 ·have hin:i=n:=nt190 hi hlt
  subst hin
  refine W.done _ _ _ hsx3 fun h4 tk4 hk4=>wpAny_execs_nil ?_
  have S4:St B3 ((L,FrameO nms avs3)::(front3++tail)) h4:=
   St.dropUpd (f:=(L,FrameO nms avs3)::front3) S3 fun b o hb e=>hk4 b o (by simpa using hb) e
  exact fin B3 front3 avs3 h4 hJ3 S4 g3 d tk4 os Q E hg3 hq he
end
end
section
open PySem PySem.W PyProof.Rows
variable [GenI]
noncomputable def DictO (prog:Program) (w:World) (kvs:List (Int×Value)):OP:=fun o=>∃es ep,o.ExactDict∧o.data = .dict es ep∧KeysOf (intKind prog w) es∧Pairs (intKind prog w) es.toList kvs∧(kvs.map (·.1)).Nodup
noncomputable def avOk:Option AV→Option Value→Prop
 | none,ov=>ov=none
 | some av,ov=>∃v,ov=some v∧av.ok v
noncomputable def MapO (prog:Program) (w:World) (n:Nat) (f:Nat→Option AV):OP:=fun o=>∃kvs,DictO prog w kvs o∧(∀p∈kvs,∃k:Nat,k<n∧p.1=k)∧∀k:Nat,avOk (f k) (valueAt kvs k)
noncomputable def ListO (xs:Array Value):OP:=fun o=>o.cls = .type "list"∧∃n,o.data = .seq xs n
theorem isList_iff {h:Heap} {a:Addr} {xs:Array Value}:h.IsList a xs ↔ ∃o,h.get? a=some o∧ListO xs o:=Iff.rfl
section
variable {prog:Program} {w:World}
theorem dictO_iff {h:Heap} {a:Addr} {kvs:List (Int×Value)}:h.DictOf (intKind prog w) a kvs ↔ ∃o,h.get? a=some o∧DictO prog w kvs o:=
 ⟨fun⟨o,es,ep,ho,r⟩=>⟨o,ho,es,ep,r⟩,fun⟨o,ho,es,ep,r⟩=>⟨o,es,ep,ho,r⟩⟩
theorem valueAt_map (kvs:List (Int×Value)) (k j:Int) (v:Value):valueAt (kvs.map fun kv=>if kv.1=k then(kv.1,v)else kv) j=if j=k then(if kvs.any (fun kv=>kv.1=k)then some v else none)else valueAt kvs j:=by
 unfold valueAt
 induction kvs with
 | nil=>simp
 | cons p r ih=>
  rw [List.map_cons,List.find?_cons,List.find?_cons,List.any_cons]
  by_cases hp:p.1=k
  ·by_cases hj:j=k
   ·subst hj;simp [hp]
   ·have hkj:¬k=j:=fun e=>hj e.symm
    simp only [hp,if_true,hkj,decide_false,hj,if_false]
    rw [ih,if_neg hj]
  ·by_cases hj:p.1=j
   ·have:¬j=k:=fun e=>hp (hj.trans e)
    simp only [if_neg hp,hj,decide_true,this,if_false]
   ·simp only [if_neg hp,hj,decide_false]
    rw [ih]
    by_cases hjk:j=k
    ·subst hjk;rw [if_pos rfl,if_pos rfl,decide_eq_false hp,Bool.false_or]
    ·rw [if_neg hjk,if_neg hjk]
theorem valueAt_stored (kvs:List (Int×Value)) (k j:Int) (v:Value):valueAt (stored kvs k v) j=if j=k then some v else valueAt kvs j:=by
 unfold stored
 split
 ·rename_i ha
  rw [valueAt_map,ha];rfl
 ·rename_i ha
  unfold valueAt
  rw [List.find?_append]
  by_cases hj:j=k
  ·subst hj
   have:kvs.find? (fun kv=>kv.1=j)=none:=by
    rw [List.find?_eq_none]
    intro p hp e
    exact ha (List.any_eq_true.mpr ⟨p,hp,e⟩)
   rw [this];simp
  ·have:¬k=j:=fun e=>hj e.symm
   simp [this,hj]
theorem mem_stored {kvs:List (Int×Value)} {k:Int} {v:Value} {p:Int×Value} (h:p∈stored kvs k v):p.1=k∨p∈kvs:=by
 unfold stored at h
 split at h
 ·obtain⟨q,hq,e⟩:=List.mem_map.mp h
  split at e
  ·subst e;rename_i hk;exact .inl hk
  ·subst e;exact .inr hq
 ·rcases List.mem_append.mp h with h | h
  ·exact .inr h
  ·simp at h;subst h;exact .inl rfl
theorem nodup_len {α:Type} [DecidableEq α]:∀{l m:List α},l.Nodup→(∀x∈l,x∈m)→l.length≤m.length
 | [],_,_,_=>Nat.zero_le _
 | a::l,m,nd,hs=>by
  have ha:=hs a (List.mem_cons_self ..)
  have nd':=List.nodup_cons.mp nd
  have:=nodup_len (l:=l) (m:=m.erase a) nd'.2 fun x hx=>(List.mem_erase_of_ne (fun e:x=a=>nd'.1 (e▸hx))).mpr (hs x (.tail _ hx))
  rw [List.length_erase_of_mem ha] at this
  have hp:=List.length_pos_of_mem ha
  rw [List.length_cons];exact nt184 this hp
theorem len_le_of {kvs:List (Int×Value)} {n:Nat} (nd:(kvs.map (·.1)).Nodup) (hb:∀p∈kvs,∃k:Nat,k<n∧p.1=k):kvs.length≤n:=by
 have h1:=nodup_len (m:=(List.range n).map fun k:Nat=>(k:Int)) nd fun x hx=>by
  obtain⟨p,hp,rfl⟩:=List.mem_map.mp hx
  obtain⟨k,hk,e⟩:=hb p hp
  exact List.mem_map.mpr ⟨k,List.mem_range.mpr hk,e.symm⟩
 simpa using h1
theorem MapO.stored {n k:Nat} {f:Nat→Option AV} {v:Value} {av:AV} {kvs:List (Int×Value)} (hk:k<n) (hv:av.ok v) {o:Obj} (hd:DictO prog w (stored kvs k v) o) (hb:∀p∈kvs,∃k:Nat,k<n∧p.1=k) (hf:∀k:Nat,avOk (f k) (valueAt kvs k)):
  MapO prog w n (fun j=>if j=k then some av else f j) o:=by
 refine⟨_,hd,fun p hp=>?_,fun j=>?_⟩
 ·rcases mem_stored hp with e | hp
  ·exact⟨k,hk,e⟩
  ·exact hb p hp
 ·rw [valueAt_stored]
  by_cases e:j=k
  ·subst e;simp only [if_true];exact⟨v,rfl,hv⟩
  ·have:¬(j:Int)=k:=fun q=>e (nt109 q)
   simp only [if_neg e,if_neg this];exact hf j
theorem MapO.nil {n:Nat}:MapO prog w n (fun _=>none) ({ cls:= .type "dict",data:= .dict #[]}:Obj):=
 ⟨[],⟨#[],0,⟨rfl,rfl,rfl⟩,rfl,fun _ he=>by simp at he,Pairs.nil,List.nodup_nil⟩,(fun p h=>absurd h List.not_mem_nil),fun _=>rfl⟩
theorem MapO.mapOf {n:Nat} {f:Nat→Option AV} {h:Heap} {a:Addr} {o:Obj} (ho:h.get? a=some o) (hm:MapO prog w n f o):∃g,h.MapOf (intKind prog w) a g∧∀k:Nat,avOk (f k) (g k):=by
 obtain⟨kvs,hd,_,hf⟩:=hm
 exact⟨_,(dictO_iff.mpr ⟨o,ho,hd⟩).mapOf,hf⟩
theorem avOk.isSome {a:Option AV} {v:Option Value} (h:avOk a v):v.isSome=a.isSome:=by
 cases a with
 | none=>rw [show v=none from h];rfl
 | some av=>obtain⟨x,rfl,_⟩:=h;rfl
variable {A:Around} {env:Env} {h:Heap} {X:Value→Heap→Prop} {P:Flow→Heap→Prop} {rest:List Stmt} {B:PM} {ms:List (Addr×OP)} {L:Addr} {nms:List Str} {avs:List AV} {pos:Pos}
theorem tl_dict:typeLookup (.type "dict") "__getitem__" =pure (some (.builtin "dict.__getitem__")):=by rw [typeLookup_type,builtinLookup_eq_fast];kernel_rfl
theorem tl_list:typeLookup (.type "list") "__getitem__" =pure (some (.builtin "list.__getitem__")):=by rw [typeLookup_type,builtinLookup_eq_fast];kernel_rfl
theorem Ec.inM {n:Nat} {f:Nat→Option AV} {a:Addr} {o:Obj} {k:Nat} (ho:h.get? a=some o) (hm:MapO prog w n f o) (hs:(a == sysModules)=false):Ec prog w A h .In (.int k) (.val (.ref a)) (f k).isSome:=by
 obtain⟨g,hg,hf⟩:=MapO.mapOf ho hm
 rw [←(hf k).isSome]
 exact Ec.inMap hg hs
theorem Ec.notInM {n:Nat} {f:Nat→Option AV} {a:Addr} {o:Obj} {k:Nat} (ho:h.get? a=some o) (hm:MapO prog w n f o) (hs:(a == sysModules)=false):Ec prog w A h .NotIn (.int k) (.val (.ref a)) (!(f k).isSome):=by
 obtain⟨g,hg,hf⟩:=MapO.mapOf ho hm
 rw [←(hf k).isSome]
 exact Ec.notInMap hg hs
theorem Ev.subM {e i:PySem.Expr} {n:Nat} {f:Nat→Option AV} {a:Addr} {o:Obj} {k:Nat} {c:AV} (he:Ev prog w A env h e (.val (.ref a))) (hi:Ev prog w A env h i (.int k)) (ho:h.get? a=some o) (hm:MapO prog w n f o) (hk:f k=some c)
  (hsl:∀va vb,subscripted i false va vb=operate [va,vb] (getItem va vb):=by intro _ _;with_unfolding_all rfl):Ev prog w A env h (.Subscript e i pos) c:=by
 obtain⟨g,hg,hf⟩:=MapO.mapOf ho hm
 have hfk:=hf k
 rw [hk] at hfk
 obtain⟨v,hv,hc⟩:=hfk
 refine Ev.sub_ he hi (fun va vb ha hb=>?_)
 have ha':va = .ref a:=ha
 obtain⟨t,rfl⟩:=hb
 subst ha'
 exact⟨"dict","dict.__getitem__",tl_dict,fun g' d tk os=>Heap.MapOf.typeIs (s:=⟨h,g',d,tk,os⟩) hg,fun _ _ _ _ _ _ hq=>wpAny_getItem_of (intKind_is _ _ k t) hg hv (hq v _ hc),hsl _ _⟩
theorem Ev.subL {e i:PySem.Expr} {xs:Array Value} {a:Addr} {k:Nat} {c:AV} {v:Value} (he:Ev prog w A env h e (.val (.ref a))) (hi:Ev prog w A env h i (.int k)) (hl:h.IsList a xs) (hv:xs[k]?=some v) (hc:c.ok v) (hk:k<2 ^ 62)
  (hsl:∀va vb,subscripted i false va vb=operate [va,vb] (getItem va vb):=by intro _ _;with_unfolding_all rfl):Ev prog w A env h (.Subscript e i pos) c:=by
 refine Ev.sub_ he hi (fun va vb ha hb=>?_)
 have ha':va = .ref a:=ha
 obtain⟨t,rfl⟩:=hb
 subst ha'
 exact⟨"list","list.__getitem__",tl_list,fun g' d tk os=>Heap.IsList.typeIs (s:=⟨h,g',d,tk,os⟩) hl,fun _ _ _ _ _ _ hq=>wpAny_getItem_list hl (nt136 hk) (by lia) (by rw [Int.toNat_natCast];exact hv) (hq v _ hc),hsl _ _⟩
theorem Cd.storeM {o i e:PySem.Expr} {p1:Pos} {n k j:Nat} {f:Nat→Option AV} {a:Addr} {av:AV} (S:St B ms h) (hj:ms[j]?=some (a,MapO prog w n f)) (he:Ev prog w A env h e av) (ho:Ev prog w A env h o (.val (.ref a))) (hi:Ev prog w A env h i (.int k)) (hk:k<n) (hn:n≤6)
  (hx:∀h2,St B (ms.set j (a,MapO prog w n fun j=>if j=k then some av else f j)) h2→Tr prog w A (execs rest env) h2 P X)
  (hs:swapsWith e (some (.Subscript o i p1)) pos.line env=pure false:=by rfl):Tr prog w A (execs (.Assign [.Subscript o i p1] e pos::rest) env) h P X:=by
 intro g d tk os Q E hg hq hE
 refine wpAny_execs_cons (wpAny_Assign_Subscript (he g d tk os _ E fun v tk1 hv=>ho g d tk1 os _ E fun ov tk2 hov=>hi g d tk2 os _ E fun iv tk3 hiv=>?_) hs)
 have ha':ov = .ref a:=hov
 obtain⟨t,rfl⟩:=hiv
 subst ha'
 obtain⟨ob,hob,kvs,hd,hb,hf⟩:=S.mem hj
 have hlen:=len_le_of hd.choose_spec.choose_spec.2.2.2.2 hb
 refine wpAny_setItem_pairs (intKind_is _ _ k t) (dictO_iff.mpr ⟨ob,hob,hd⟩) (fun h' hd' hs'=>?_) (by rw [sizeLine_eq];exact nt177 hn hlen)
 obtain⟨o',ho',hd''⟩:=dictO_iff.mp hd'
 exact hx h' (S.upd hj hs' ho' (MapO.stored hk hv hd'' hb hf)) g d _ os Q E hg hq hE
end
end
section
set_option tactic.hygienic false
open PySem PySem.W PyProof.Rows
variable [GenI]
section
variable {prog:Program} {w:World} {A:Around} {env:Env} {h:Heap} {X:Value→Heap→Prop} {P:Flow→Heap→Prop} {rest:List Stmt} {B:PM} {ms:List (Addr×OP)} {L:Addr} {nms:List Str} {avs:List AV} {pos:Pos}
noncomputable def Ea (prog:Program) (w:World) (A:Around) (env:Env) (h:Heap) (op:BoolOp) (vs:List PySem.Expr) (b:Bool):Prop:=
 ∀(g:Array GenState) (d:Drawn) (tk:Nat) (os:OsState) (Q:Bool→Shared→Prop) (E:Value→Shared→Prop),(∀tk',Q b ⟨h,g,d,tk',os⟩)→wpAny (model prog w) A (allTrue op vs env) Q E ⟨h,g,d,tk,os⟩
theorem Ea.andNil:Ea prog w A env h .And [] true:=fun _ _ _ _ _ _ hq=>wpAny_allTrue_And_nil (hq _)
theorem Ea.orNil:Ea prog w A env h .Or [] false:=fun _ _ _ _ _ _ hq=>wpAny_allTrue_Or_nil (hq _)
theorem Ea.and {x:PySem.Expr} {r:List PySem.Expr} {b1 b2:Bool} (h1:Et prog w A env h x b1) (h2:b1=true→Ea prog w A env h .And r b2):Ea prog w A env h .And (x::r) (b1 && b2):=
 fun g d tk os Q E hq=>wpAny_allTrue_And_cons (h1 g d tk os _ E fun tk1=>by
  cases b1 with
  | false=>exact hq _
  | true=>exact h2 rfl g d tk1 os Q E hq)
theorem Ea.or {x:PySem.Expr} {r:List PySem.Expr} {b1 b2:Bool} (h1:Et prog w A env h x b1) (h2:b1=false→Ea prog w A env h .Or r b2):Ea prog w A env h .Or (x::r) (b1 || b2):=
 fun g d tk os Q E hq=>wpAny_allTrue_Or_cons (h1 g d tk os _ E fun tk1=>by
  cases b1 with
  | true=>exact hq _
  | false=>exact h2 rfl g d tk1 os Q E hq)
theorem Et.bool {op:BoolOp} {vs:List PySem.Expr} {b:Bool} (h1:Ea prog w A env h op vs b):Et prog w A env h (.BoolOp op vs pos) b:=fun g d tk os Q E hq=>wpAny_isTrue_BoolOp (h1 g d tk os Q E hq)
theorem Et.not {x:PySem.Expr} {b:Bool} (h1:Et prog w A env h x b):Et prog w A env h (.UnaryOp .Not x pos) (!b):=fun g d tk os Q E hq=>isTrue_not (h1 g d tk os _ E fun tk'=>hq tk')
theorem Et.val {x:PySem.Expr} {b:Bool} (h1:Ev prog w A env h x (.val (.bool b))) (he:∀whole,isTrue x env whole=(do let v ←whole;standAt x.pos;holding [v] (truthy v)):=by intro _;rfl):Et prog w A env h x b:=
 fun g d tk os Q E hq=>isTrue_plain (h1 g d tk os _ E fun v tk' hv=>by
  have hv':v = .bool b:=hv
  subst hv'
  exact wpAny_truthy_bool (hq _)) (he _)
theorem Et.none {x:PySem.Expr} (h1:Ev prog w A env h x (.val .none)) (he:∀whole,isTrue x env whole=(do let v ←whole;standAt x.pos;holding [v] (truthy v)):=by intro _;rfl):Et prog w A env h x false:=
 fun g d tk os Q E hq=>isTrue_plain (h1 g d tk os _ E fun v tk' hv=>by
  have hv':v = .none:=hv
  subst hv'
  exact truthy_none (hq _)) (he _)
theorem Et.list {x:PySem.Expr} {l:Addr} {items:Array Value} (h1:Ev prog w A env h x (.val (.ref l))) (hl:h.IsList l items) (hz:(items.size:Int)<2 ^ 63) (he:∀whole,isTrue x env whole=(do let v ←whole;standAt x.pos;holding [v] (truthy v)):=by intro _;rfl):
  Et prog w A env h x (!items.isEmpty):=
 fun g d tk os Q E hq=>isTrue_plain (h1 g d tk os _ E fun v tk' hv=>by
  have hv':v = .ref l:=hv
  subst hv'
  exact wpAny_truthy_list hl hz (hq _)) (he _)
theorem Et.eq {x:PySem.Expr} {b b':Bool} (h1:Et prog w A env h x b) (e:b=b'):Et prog w A env h x b':=e▸h1
theorem Ev.if_ {c t e:PySem.Expr} {b:Bool} {av:AV} (hc:Et prog w A env h c b) (h1:b=true→Ev prog w A env h t av) (h2:b=false→Ev prog w A env h e av):Ev prog w A env h (.IfExp c t e pos) av:=
 fun g d tk os Q E hq=>IfExp_ (hc g d tk os _ E fun tk'=>by
  cases b with
  | true=>exact h1 rfl g d tk' os Q E hq
  | false=>exact h2 rfl g d tk' os Q E hq)
theorem Tr.if_ {c t e:PySem.Expr} {b:Bool} {P:Value→Heap→Prop} (hc:Et prog w A env h c b) (h1:b=true→Tr prog w A (eval t env) h P X) (h2:b=false→Tr prog w A (eval e env) h P X):Tr prog w A (eval (.IfExp c t e pos) env) h P X:=
 fun g d tk os Q E hg hq he=>IfExp_ (hc g d tk os _ E fun tk'=>by
  cases b with
  | true=>exact h1 rfl g d tk' os Q E hg hq he
  | false=>exact h2 rfl g d tk' os Q E hg hq he)
theorem Turns.range {x:Str} {px:Pos} {r:Addr} {n:Nat} {t u v:Tok} {B:PM} (hr:IsRange h r 0 n 1 t u v) (hn:n<2 ^ 60) (h2:2<h.objs.size):
  Turns prog w (.Name x px) (.ref r) n (fun i v _=>∃t,v = .int i t) B h:=by
 intro A g d tk os Q E hh hq
 refine wpAny_pyIter_range hr (small_one (by omega) (by omega) (by omega) (by omega)) ?_
 have e:Builtin.Range.rangeSize 0 (n:Int) 1=n:=by rw [rangeSize_one];split <;> lia
 have W:=Walks.range (prog:=prog) (w:=w) hh h.objs.size 0 1 n
 have e1:(fun(i:Nat) v=>∃t,v=Value.int (0+(i:Int)*1) t)=fun(i:Nat) v=>∃t,v=Value.int i t:=by funext i v;simp
 rw [e1] at W
 refine hq h.objs.size [h.objs.size] _ _ _ tk _ (KTurns.ofWalks (target:= .Name x px) W (fun i v s Q E _ q=>wpAny_pure q)) (fun b hb=>.inl (by simpa using hb)) ?_ (fun i h' hs=>⟨_,hs⟩) (St.push_none h) (fun b o e=>Heap.get?_push_of_some _ e) (Heap.get?_push_size _ rfl) h2
 show IsRangeIter _ _ _ _ _
 rw [e]
 simp
 exact Heap.get?_push_size _ rfl
theorem Turns.list {x:Str} {px:Pos} {l:Addr} {items:Array Value} {B:PM} {o:Obj} (hB:B l=some o) (hk:∀a o,B a=some o→h.get? a=some o) (hl:h.IsList l items) (h2:2<h.objs.size):
  Turns prog w (.Name x px) (.ref l) items.size (fun i v _=>items[i]?=some v) B h:=by
 intro A g d tk os Q E hh hq
 have hne:l≠h.objs.size:=Nat.ne_of_lt (Heap.lt_size (hk _ _ hB))
 refine wpAny_pyIter_list hl ?_
 refine hq h.objs.size [h.objs.size,l] _ _ _ tk _ (KTurns.ofWalks (target:= .Name x px) (Walks.list (prog:=prog) (w:=w) hh h.objs.size l hne items) (fun i v s Q E _ q=>wpAny_pure q)) (fun b hb=>?_) ⟨⟨_,Heap.get?_push_size _ rfl,rfl,rfl⟩,hl.push _⟩ (fun i h' hs=>?_) (St.push_none h) (fun b o e=>Heap.get?_push_of_some _ e) (Heap.get?_push_size _ rfl) h2
 ·rcases List.mem_cons.mp hb with rfl | hb
  ·exact .inl rfl
  ·rw [List.mem_singleton.mp hb];exact .inr ⟨o,hB⟩
 ·obtain⟨⟨oi,e,_⟩,_⟩:=hs;exact⟨oi,e⟩
theorem Turns.items {elts:List PySem.Expr} {kk:Nat} {pt:Pos} {vw d:Addr} {kvs:List (Int×Value)} {B:PM} {o:Obj} (hB:B d=some o) (hk:∀a o,B a=some o→h.get? a=some o) (hv:h.IsItemsView vw d) (hd:DictO prog w kvs o) (h2:2<h.objs.size):
  Turns prog w (.Tuple elts kk pt) (.ref vw) kvs.length (fun i v h=>∃T key k x,v = .ref T∧kvs[i]?=some (k,x)∧(intKind prog w).is k key=true∧h.IsTuple T #[key,x]) B h:=by
 intro A g dd tk os Q E hh hq
 have ho:=hk _ _ hB
 have hne:d≠h.objs.size:=Nat.ne_of_lt (Heap.lt_size ho)
 obtain⟨ep,hat⟩:=Heap.DictOf.dictAt (dictO_iff.mpr ⟨o,ho,hd⟩)
 refine wpAny_pyIter_items hv hat ?_
 refine hq h.objs.size [h.objs.size,d] _ _ _ tk _ (kti_itemsTurns (prog:=prog) (w:=w) (elts:=elts) (kk:=kk) (pos:=pt) hh h.objs.size d hne kvs ep) (fun b hb=>?_) ⟨⟨.none,.none,Heap.get?_push_size _ rfl⟩,hat.push _⟩ (fun i h' hs=>?_) (St.push_none h) (fun b o e=>Heap.get?_push_of_some _ e) (Heap.get?_push_size _ rfl) h2
 ·rcases List.mem_cons.mp hb with rfl | hb
  ·exact .inl rfl
  ·rw [List.mem_singleton.mp hb];exact .inr ⟨o,hB⟩
 ·obtain⟨⟨ok,ov,e⟩,_⟩:=hs;exact⟨_,e⟩
theorem Tr.asgName (O:EnvOk env L nms) (S:St B ((L,FrameO nms avs)::ms) h) (i:Nat) {x:Str} (hx:nms[i]?=some x) {v:Value} {av:AV} (hv:av.ok v) {P:Unit→Heap→Prop}
  (k:∀h2,St B ((L,FrameO nms (avs.set i av))::ms) h2→P () h2) (hnd:nms.Nodup:=by decide):Tr prog w A (assign (.Name x pos) env v) h P X:=
 fun g d tk os Q E hg hq he=>wpAny_assign_Name (store_at O S hx hv hnd fun h2 tk2 S2=>hq _ _ _ _ hg (k h2 S2))
theorem Tr.asg2 (O:EnvOk env L nms) (hh:A.handled=none) (S:St B ((L,FrameO nms avs)::ms) h) (i j:Nat) {x y:Str} {p1 p2:Pos} {kk:Nat} (hx:nms[i]?=some x) (hy:nms[j]?=some y) {T:Addr} {v1 v2:Value} {a1 a2:AV} (hT:h.IsTuple T #[v1,v2]) (h1:a1.ok v1) (h2:a2.ok v2) {P:Unit→Heap→Prop}
  (k:∀h2,St B ((L,FrameO nms ((avs.set i a1).set j a2))::ms) h2→P () h2) (hnd:nms.Nodup:=by decide):Tr prog w A (assign (.Tuple [.Name x p1,.Name y p2] kk pos) env (.ref T)) h P X:=by
 intro g d tk os Q E hg hq he
 refine wpAny_assign_Tuple hh hT rfl rfl fun h' hx'=>?_
 have S':St B ((L,FrameO nms avs)::ms) h':=S.ext fun b o e=>hx' b o (Nat.ne_of_lt (Heap.lt_size e)) e
 show wpAny _ _ (assignInOrder [assign (.Name x p1) env,assign (.Name y p2) env] [v1,v2]) _ _ _
 refine wpAny_assignInOrder_more (wpAny_assign_Name (store_at O S' hx h1 hnd fun h2' tk2 S2=>?_))
 refine wpAny_assignInOrder_more (wpAny_assign_Name (store_at O S2 hy h2 hnd fun h3 tk3 S3=>?_))
 exact wpAny_assignInOrder_none (hq _ _ _ _ hg (k h3 S3))
end
end
section
set_option tactic.hygienic false
open PySem PySem.W PyProof.Rows
variable [GenI]
noncomputable def topSt (i:Nat):Stmt:=PySem.Challenge.pw_bf0028_01.main.body.getD i (.Pass default)
noncomputable def stP:Stmt→Str×Arguments×List Stmt×Scope
 | .FunctionDef n p b _ _ _ s ..=>(n,p,b,s)
 | .ClassDef _ _ _ b ..=>(default,default,b,default)
 | .While _ b _ _=>(default,default,b,default)
 | .For _ _ b _ _=>(default,default,b,default)
 | .If _ b _ _=>(default,default,b,default)
 | _=>(default,default,[],default)
noncomputable def fnName (s:Stmt):Str:=(stP s).1
noncomputable def fnParams (s:Stmt):Arguments:=(stP s).2.1
noncomputable def fnBody (s:Stmt):List Stmt:=(stP s).2.2.1
noncomputable def fnScope (s:Stmt):Scope:=(stP s).2.2.2
noncomputable def clsSt (i j:Nat):Stmt:=(fnBody (topSt i)).getD j (.Pass default)
structure FX where
 (doc pm cdv ct:Value) (an:Option Addr)
noncomputable def fdOf (s:Stmt) (qual:Str) (dV kV:Value) (x:FX):FuncData:=fnOf (fnName s) qual (fnParams s) (fnBody s) (fnScope s) dV kV x.doc x.pm x.an x.cdv x.ct
inductive FnAt (B:PM) (a:Addr) (s:Stmt) (qual:Str) (dV kV:Value):Prop
 | mk (oc od sl x) (f1:B a=some ⟨oc,od,.func (fdOf s qual dV kV x),sl⟩) (f2:∃c o vs t,x.cdv = .ref c∧B c=some o∧o.data = .fields vs∧vs[1]?=some (.str qual t)):FnAt B a s qual dV kV
theorem FnAt.le {B B':PM} {a s qual dV kV} (F:FnAt B a s qual dV kV) (h:B.le B'):FnAt B' a s qual dV kV:=by
 obtain⟨oc,od,sl,x,e,c,o,vs,t,e1,e2,r⟩:=F
 exact⟨oc,od,sl,x,h _ _ e,c,o,vs,t,e1,h _ _ e2,r⟩
inductive NoLim (B:PM):Prop
 | mk (o mc) (f1:B cStatics=some o) (f2:NsO mc o) (f3:mc "sys.recursionlimit" =none):NoLim B
noncomputable def Tc (prog:Program) (w:World) (A:Around) (c:Code) (h:Heap) (P:Value→Heap→Prop) (X:Value→Heap→Prop):Prop:=
 ∀(g:Array GenState) (d:Drawn) (tk:Nat) (os:OsState) (Q:Value→Shared→Prop) (E:Value→Shared→Prop),GenI.ok g→
  (∀a h' g' tk',GenI.ok g'→P a h'→Q a ⟨h',g',d,tk',os⟩)→(∀e h' g' tk',GenI.ok g'→X e h'→E e ⟨h',g',d,tk',os⟩)→
  codeAny (model prog w) A c (fun r s'=>match r with | .ok (.ret v)=>Q v s' | .ok _=>False | .error e=>E e s') ⟨h,g,d,tk,os⟩
theorem Tc.tr {prog:Program} {w:World} {A:Around} {f:Value} {pos:List Value} {kw:List (Str×Value)} {h:Heap} {P X} (t:Tc prog w A (.call f ⟨pos,kw⟩) h P X):Tr prog w A (call f pos kw) h P X:=
 fun g d tk os Q E hg hq he=>wpAny_call (t g d tk os Q E hg hq he)
structure Room (A:Around) (d u:Nat):Prop where
 hh:A.handled=none
 dp:A.depth+d<recursionLimit
 un:A.units+u<cLine
noncomputable def envF (s:Stmt) (qual:Str) (L a:Addr) (cd:Value):Env:=envOf qual (fnScope s) L a cd
section
variable {prog:Program} {w:World} {A:Around} {env:Env} {h:Heap} {X:Value→Heap→Prop} {B:PM} {ms:List (Addr×OP)} {L:Addr} {nms:List Str} {avs:List AV} {pos:Pos}
theorem Room.deeper {d u:Nat} (R:Room A (d+1) (u+3)):Room (A.deeper env) d u:=⟨R.hh,by have:=R.dp;show A.depth+1+d<_;exact nt203 this,by have:=R.un;show A.units+3+u<_;exact nt205 this⟩
theorem Room.le {d u d' u':Nat} (R:Room A d u) (h1:d'≤d) (h2:u'≤u):Room A d' u':=⟨R.hh,by have:=R.dp;exact nt319 h1 this,by have:=R.un;exact nt319 h2 this⟩
theorem Tc.callFn {a:Addr} {s:Stmt} {qual:Str} {dV kV:Value} {pos:List Value} {kw:List (Str×Value)} {binds:List (Str×Value)} {P:Value→Heap→Prop} {d u:Nat} (R:Room A (d+1) (u+3)) (F:FnAt B a s qual dV kV) (hl:NoLim B) (S:St B ms h)
  (hb:∀x s',s'.heap=h→BindsTo s' (fdOf s qual dV kV x) ⟨pos,kw⟩ binds) (nms:List Str) (avs:List AV) (hf:Fits nms avs fun x=>binds.reverse.lookup x) (hloc:∀x∈binds,(fnScope s).names.lookup x.1=some .local)
  (k:∀L h1 cd A',Room A' d u→St B ((L,FrameO nms avs)::ms) h1→Tr prog w A' (execs (fnBody s) (envF s qual L a cd)) h1 (fun f h2=>P (match f with | .ret v=>v | _=>.none) h2) noX)
  (hcell:∀x∈(fnScope s).names,x.2≠ .cell:=by decide +kernel) (hco:(fnScope s).isCoroutine=false:=by rfl) (hgen:(fnScope s).isGenerator=false:=by rfl) (hk:(fnScope s).kind = .function:=by rfl):
  Tc prog w A (.call (.ref a) ⟨pos,kw⟩) h P X:=by
 intro g dr tk os Q E hg hq he
 obtain⟨oc,od,sl,x,e,c,o,vs,t,e1,e2,e3,e4⟩:=F
 obtain⟨oS,mc,hS,hSn,hSl⟩:=hl
 refine(codeAny_call_def (fd:=fdOf s qual dV kV x) (body:=fnBody s) (binds:=binds) (by have:=R.dp;exact nt204 this) (S.keep _ _ e) rfl ⟨mc,ns_iff.mpr ⟨oS,S.keep _ _ hS,hSn⟩,hSl⟩ ⟨c,o,vs,t,e1,S.keep _ _ e2,e3,e4⟩ rfl (hb x _ rfl) hcell hloc (fun h₁ hns hk₁=>?_) hco hgen hk)
 obtain⟨oL,hoL,hno⟩:=ns_iff.mp hns
 have S1:=S.newM (P:=FrameO nms avs) (St.push_none h) hk₁ hoL ⟨_,hno,hf⟩ S.size2
 refine k h.objs.size h₁ x.cdv (A.deeper (callEnv (fdOf s qual dV kV x) h.objs.size a)) R.deeper S1 g dr _ os _ _ hg (fun f h2 g2 tk2 hg2 p=>?_) (fun _ _ _ _ _ q=>q.elim)
 exact hq _ _ _ _ hg2 p
end
theorem St.newMs {B:PM} {ms l:List (Addr×OP)} {h h':Heap} (S:St B ms h) (hk:∀b o,h.get? b=some o→h'.get? b=some o) (hl:∀p∈l,h.get? p.1=none∧2<p.1∧∃o,h'.get? p.1=some o∧p.2 o) (nd:(l.map (·.1)).Nodup):St B (l++ms) h':=by
 have S':=S.ext hk
 refine⟨S'.keep,fun p hp=>?_,fun p hp=>?_,?_,fun p hp=>?_,S.st2⟩
 ·rcases List.mem_append.mp hp with hp | hp
  ·exact(hl p hp).2.2
  ·exact S'.own p hp
 ·rcases List.mem_append.mp hp with hp | hp
  ·exact S.notB_of_none (hl p hp).1
  ·exact S.off p hp
 ·rw [List.map_append]
  refine List.nodup_append.mpr ⟨nd,S.nd,fun a ha b hb e=>?_⟩
  subst e
  obtain⟨p,hp,rfl⟩:=List.mem_map.mp ha
  exact S.notMs_of_none (hl p hp).1 hb
 ·rcases List.mem_append.mp hp with hp | hp
  ·exact(hl p hp).2.1
  ·exact S.low p hp
noncomputable def CellW (ov:Option AV):OP:=fun o=>∃v,o.data = .cell v∧match ov with | some av=>av.inn v | none=>v=none
noncomputable def envC (s:Stmt) (qual:Str) (L a:Addr) (cd:Value):Env:=
 { scope:=fnScope s,locals:=L,globals:=mainGlobals,cells:=cellsFrom (L+1) (fnScope s).names [],qual:=qual++ ".<locals>.",func:=some a,code:=cd,frame:=some L,builtins:=builtinsNs}
section
variable {prog:Program} {w:World} {A:Around} {env:Env} {h:Heap} {X:Value→Heap→Prop} {B:PM} {ms:List (Addr×OP)} {L:Addr} {nms:List Str} {avs:List AV} {pos:Pos}
theorem Tc.callFnC {a:Addr} {s:Stmt} {qual:Str} {dV kV:Value} {pos:List Value} {kw:List (Str×Value)} {binds:List (Str×Value)} {P:Value→Heap→Prop} {d u:Nat} (R:Room A (d+1) (u+3)) (F:FnAt B a s qual dV kV) (hl:NoLim B) (S:St B ms h)
  (hb:∀x s',s'.heap=h→BindsTo s' (fdOf s qual dV kV x) ⟨pos,kw⟩ binds) (nms:List Str) (avs:List AV) (cs:List (Str×Nat×Option AV))
  (hkind:∀L,∀x∈binds,(fnScope s).names.lookup x.1=some .local∨((fnScope s).names.lookup x.1=some .cell∧((cellsFrom (L+1) (fnScope s).names []).lookup x.1).isSome=true))
  (hf:Fits nms avs (bindL (fun x=>(fnScope s).names.lookup x) binds fun _=>none))
  (hcs:∀L,∀c∈cs,(cellsFrom (L+1) (fnScope s).names []).lookup c.1=some (L+1+c.2.1))
  (hcv:∀c∈cs,match c.2.2 with | some av=>av.inn (bindC (fun x=>(fnScope s).names.lookup x) binds (fun _=>none) c.1) | none=>bindC (fun x=>(fnScope s).names.lookup x) binds (fun _=>none) c.1=none)
  (hcn:(cs.map (·.2.1)).Nodup)
  (k:∀L h1 cd A',Room A' d u→St B ((L,FrameO nms avs)::(cs.map (fun c=>(L+1+c.2.1,CellW c.2.2))++ms)) h1→Tr prog w A' (execs (fnBody s) (envC s qual L a cd)) h1 (fun f h2=>P (match f with | .ret v=>v | _=>.none) h2) noX)
  (hco:(fnScope s).isCoroutine=false:=by rfl) (hgen:(fnScope s).isGenerator=false:=by rfl) (hk:(fnScope s).kind = .function:=by rfl):
  Tc prog w A (.call (.ref a) ⟨pos,kw⟩) h P X:=by
 intro g dr tk os Q E hg hq he
 obtain⟨oc,od,sl,x,e,c,o,vs,t,e1,e2,e3,e4⟩:=F
 obtain⟨oS,mc,hS,hSn,hSl⟩:=hl
 refine codeAny_call_function (fd:=fdOf s qual dV kV x) (by have:=R.dp;exact nt204 this) (S.keep _ _ e) rfl hco hgen rfl ⟨c,o,vs,t,e1,S.keep _ _ e2,e3,e4⟩ (hb x _ rfl _ _ _ _ ?_)
 refine wpAny_newFunctionEnv_cells hk (hkind _) fun env henv s' I=>?_
 subst henv
 obtain⟨h1,tk1,rfl⟩:=I.toInCall.same
 have hlim:Heap.NoLimit h1:=⟨mc,ns_iff.mpr ⟨oS,I.toInCall.keep _ _ (S.keep _ _ hS),hSn⟩,hSl⟩
 refine⟨hlim,codeAny_func ?_⟩
 obtain⟨oL,hoL,hno⟩:=ns_iff.mp I.toInCall.ns
 have none_of:∀a,h.objs.size≤a→h.get? a=none:=fun a ha=>by
  cases q:h.get? a with
  | none=>rfl
  | some o=>exact absurd (Heap.lt_size q) (Nat.not_lt.mpr ha)
 have S1:St B (((h.objs.size,FrameO nms avs)::cs.map (fun c=>(h.objs.size+1+c.2.1,CellW c.2.2)))++ms) h1:=by
  refine S.newMs I.toInCall.keep (fun p hp=>?_) ?_
  ·rcases List.mem_cons.mp hp with rfl | hp
   ·exact⟨St.push_none h,S.size2,oL,hoL,_,hno,hf⟩
   ·obtain⟨c,hc,rfl⟩:=List.mem_map.mp hp
    obtain⟨oc,hoc,hd⟩:=I.cell c.1 _ (hcs _ c hc)
    exact⟨none_of _ (Nat.le_trans (Nat.le_succ _) (Nat.le_add_right ..)),Nat.lt_of_lt_of_le S.size2 (Nat.le_trans (Nat.le_succ _) (Nat.le_add_right ..)),oc,hoc,_,hd,hcv c hc⟩
  ·rw [List.map_cons,List.map_map]
   refine List.nodup_cons.mpr ⟨fun q=>?_,?_⟩
   ·obtain⟨c,_,e⟩:=List.mem_map.mp q
    exact absurd (show h.objs.size+1+c.2.1=h.objs.size from e) nt191
   ·have e:(cs.map ((·.1) ∘ fun c=>(h.objs.size+1+c.2.1,CellW c.2.2)))=(cs.map (·.2.1)).map (h.objs.size+1 + ·):=by rw [List.map_map];rfl
    rw [e]
    exact List.Pairwise.map (h.objs.size+1 + ·) (fun a b hab e=>hab (by simpa using e)) hcn
 refine k h.objs.size h1 x.cdv (A.deeper _) R.deeper S1 g dr _ os _ _ hg (fun f h2 g2 tk2 hg2 p=>?_) (fun _ _ _ _ _ q=>q.elim)
 exact hq _ _ _ _ hg2 p
end
theorem EnvOk.of {s:Stmt} {qual:Str} {L a:Addr} {cd:Value} {nms:List Str} (hl:(nms.all fun x=>decide ((fnScope s).names.lookup x=some .local))=true) (hk:(fnScope s).kind = .function:=by rfl):EnvOk (envF s qual L a cd) L nms:=⟨rfl,hk,hl,rfl,rfl⟩
inductive GName (B:PM) (x:Str) (v:Value):Prop
 | mk (o mg) (f1:B mainGlobals=some o) (f2:NsO mg o) (f3:(mg x=some v∨(mg x=none∧∃o' mb,B builtinsNs=some o'∧NsO mb o'∧mb x=some v))):GName B x v
theorem GName.le {B B':PM} {x v} (G:GName B x v) (h:B.le B'):GName B' x v:=by
 obtain⟨o,mg,e,n,r⟩:=G
 refine⟨o,mg,h _ _ e,n,r.imp_right ?_⟩
 rintro⟨r,o',mb,e',r'⟩
 exact⟨r,o',mb,h _ _ e',r'⟩
theorem NoLim.le {B B':PM} (G:NoLim B) (h:B.le B'):NoLim B':=by
 obtain⟨o,mc,e,r,r'⟩:=G
 exact⟨o,mc,h _ _ e,r,r'⟩
section
variable {prog:Program} {w:World} {A:Around} {env:Env} {h:Heap} {X:Value→Heap→Prop} {B:PM} {ms:List (Addr×OP)} {L:Addr} {nms:List Str} {avs:List AV} {pos:Pos}
theorem Ev.g {x:Str} {v:Value} (O:EnvOk env L nms) (S:St B ms h) (G:GName B x v) (hl:env.kindOf x=some .globalImplicit:=by rfl) (hd:(x == ("__debug__" :Str))=false:=by decide):Ev prog w A env h (.Name x pos) (.val v):=by
 obtain⟨o,mg,e,n,r⟩:=G
 rcases r with r | ⟨r,o',mb,e',n',r'⟩
 ·exact Ev.global O hl (ns_iff.mpr ⟨o,S.keep _ _ e,n⟩) r hd
 ·exact Ev.builtin O hl (ns_iff.mpr ⟨o,S.keep _ _ e,n⟩) r (ns_iff.mpr ⟨o',S.keep _ _ e',n'⟩) r' hd
theorem Tr.test {e:PySem.Expr} {P:Bool→Heap→Prop} (h1:Tr prog w A (eval e env) h (fun v h'=>∃b,v = .bool b∧P b h') X) (he:∀whole,isTrue e env whole=(do let v ←whole;standAt e.pos;holding [v] (truthy v)):=by intro _;rfl):
  Tr prog w A (isTrue e env (eval e env)) h P X:=
 fun g d tk os Q E hg hq hE=>isTrue_plain (h1 g d tk os _ E hg (fun v h' g' tk' hg' ⟨b,e,p⟩=>by subst e;exact wpAny_truthy_bool (hq _ _ _ _ hg' p)) hE) (he _)
theorem Cd.ifTr {c:PySem.Expr} {b1 b2 rest:List Stmt} {b:Bool} {P:Flow→Heap→Prop} (hc:Tr prog w A (isTrue c env (eval c env)) h (fun b h1=>if b then Tr prog w A (execs (b1++rest) env) h1 P X else Tr prog w A (execs (b2++rest) env) h1 P X) X):Tr prog w A (execs (.If c b1 b2 pos::rest) env) h P X:=by
 intro g d tk os Q E hg hq he
 refine wpAny_If_app (hc g d tk os _ E hg (fun b h1 g1 tk1 hg1 k=>?_) he)
 cases b
 ·exact(show Tr prog w A (execs (b2++rest) env) h1 P X from k) g1 d tk1 os Q E hg1 hq he
 ·exact(show Tr prog w A (execs (b1++rest) env) h1 P X from k) g1 d tk1 os Q E hg1 hq he
theorem entry_callable:entryFor table "callable" =some Builtin.«callable»:=entryFor_of_tree (by kernel_rfl)
theorem kind_callable:builtinKind "callable" =none:=by decide +kernel
theorem plain_callable:plainId "callable" =true:=by decide +kernel
theorem args_callable (a:Value):argsOk "callable" ⟨[a],[]⟩:=by unfold argsOk;kernel_rfl
theorem one_callable (a:Value):oneArg "callable" ⟨[a],[]⟩=(Pure.pure a:Sem Value):=by kernel_rfl
theorem fn_call:typeLookup (.type "function") "__call__" =(Pure.pure (some (.builtin "function.__call__")):Sem (Option Value)):=by rw [typeLookup_type,builtinLookup_eq_fast];kernel_rfl
theorem Tr.callable {a:Addr} {o:Obj} (ho:h.get? a=some o) (hc:o.cls = .type "function") {P:Value→Heap→Prop} (hp:P (.bool true) h):Tr prog w A (call (.builtin "callable") [.ref a]) h P X:=by
 intro g d tk os Q E hg hq he
 refine Calls.call_function_entry kind_callable plain_callable entry_callable (args_callable _) ?_
 unfold Builtin.«callable»
 rw [one_callable]
 refine wpAny_bind (wpAny_pure (wpAny_bind (m:=specialOf (.ref a) "__call__") ?_))
 unfold specialOf
 have L1:Looks (model prog w) h (typeOf (.ref a)) (.type "function"):=hc▸(Looks.ld ho).andThen .now
 refine wpAny_bind (L1.at ?_)
 rw [fn_call]
 exact wpAny_pure (wpAny_pure ⟨_,rfl,hq _ _ _ _ hg hp⟩)
end
noncomputable def sWf:Stmt:=topSt 10
theorem EnvOk.ofC {s:Stmt} {qual:Str} {L a:Addr} {cd:Value} {nms:List Str} (hl:(nms.all fun x=>decide ((fnScope s).names.lookup x=some .local))=true) (hk:(fnScope s).kind = .function:=by rfl):EnvOk (envC s qual L a cd) L nms:=⟨rfl,hk,hl,rfl,rfl⟩
theorem okWf {L a:Addr} {cd:Value}:EnvOk (envC sWf "_weight_function" L a cd) L ["G"]:= .ofC (by decide +kernel)
theorem Fits.nil {m}:Fits [] [] m:=fun i x av h=>by simp at h
theorem Fits.cons {nms:List Str} {avs:List AV} {m} {x:Str} {av:AV} (h:av.inn (m x)) (hr:Fits nms avs m):Fits (x::nms) (av::avs) m:=fun i y a hy ha=>by
 cases i with
 | zero=>simp at hy ha;subst hy ha;exact h
 | succ i=>simp at hy ha;exact hr i y a hy ha
section
variable {prog:Program} {w:World} {A:Around} {h:Heap} {X:Value→Heap→Prop} {B:PM} {ms:List (Addr×OP)}
theorem wf_ok {g fw:Addr} {o:Obj} (R:Room A 2 10) (F:FnAt B 129 sWf "_weight_function" .none .none) (hl:NoLim B) (G:GName B "callable" (.builtin "callable")) (S:St B ms h) (hw:B fw=some o) (hc:o.cls = .type "function"):
  Tr prog w A (call (.ref 129) [.ref g,.ref fw]) h (fun v h'=>v = .ref fw∧St B ms h') X:=by
 refine Tc.tr (Tc.callFnC (d:=1) (u:=7) R F hl S (binds:=[("G",.ref g),("weight",.ref fw)]) (fun x s' _=>.of_eq rfl) ["G"] [.val (.ref g)] [("weight",0,some (.val (.ref fw)))] (fun L x hx=>?_) (.cons rfl .nil) (fun L c hc=>?_) (fun c hc=>?_) (by simp) fun L h1 cd A' R' S1=>?_)
 ·rcases List.mem_cons.mp hx with rfl | hx
  ·exact .inl (by rfl)
  ·rw [List.mem_singleton.mp hx];exact .inr ⟨by rfl,rfl⟩
 ·rw [List.mem_singleton.mp hc];rfl
 ·rw [List.mem_singleton.mp hc];rfl
 ·obtain⟨oc,hoc,v,hd,hv⟩:=S1.mem (i:=1) rfl
  have hv':v=some (.ref fw):=hv
  subst hv'
  refine Cd.ifTr (b:=true) (.test (.callName (.g okWf S1 G) (.evE (.cell rfl (by rfl) rfl ⟨_,hoc,hd⟩) fun v hv=>.evNil ⟨.builtin,?_⟩)))
  have hv':v = .ref fw:=hv
  subst hv'
  refine Tr.callable (S1.keep _ _ hw) hc ⟨true,rfl,?_⟩
  exact Cd.retE (.cell rfl (by rfl) rfl ⟨_,hoc,hd⟩) fun v hv=>⟨hv,S1.drop0.drop0⟩
end
end
section
open PySem PySem.W PyProof.Rows
variable [GenI]
structure Cls (K:Frag) (C:Addr):Prop where
 get:findIn K (.ref C) "__getattribute__" =some (some (.builtin "object.__getattribute__"))
 hook:findIn K (.ref C) "__getattr__" =some none
 set:findIn K (.ref C) "__setattr__" =some (some (.builtin "object.__setattr__"))
 over:plainOver K C=true
 makes:makesIn K C=true
 keep:keepIn K (.ref C)=true
structure MethF (K:Frag) (C:Addr) (name:Str) (f:Addr):Prop where
 find:findIn K (.ref C) name=some (some (.ref f))
 fn:typeIn K (.ref f)=some (.type "function")
structure SlotF (K:Frag) (C:Addr) (name:Str) (p i:Nat):Prop where
 find:findIn K (.ref C) name=some (some (.ref p))
 slot:slotIn K p C=some i
 get:specialIn K (.ref p) "__get__" =some (some (.builtin "member_descriptor.__get__"))
 takes:takesIn K (.ref p)=some true
 taker:takerIn K C name=some (some (.ref p))
 type:typeIn K (.ref p)=some (.type "member_descriptor")
 cls:(clsIn K C).isSome=true
structure OwnF (K:Frag) (C:Addr) (name:Str):Prop where
 find:∃attr,findIn K (.ref C) name=some attr∧noGet K attr=true
 taker:takerIn K C name=some none
 has:hasDictIn K C=true
inductive Ents:List DictEntry→List (Str×Value)→Prop
 | nil:Ents [] []
 | cons {e:DictEntry} {es:List DictEntry} {n:Str} {v:Value} {l:List (Str×Value)} (hk:∃t,e.key = .str n t) (hv:e.val=v) (hr:Ents es l):Ents (e::es) ((n,v)::l)
noncomputable def putA (n:Str) (v:Value):List (Str×Value)→List (Str×Value)
 | []=>[(n,v)]
 | p::r=>if p.1=n then(p.1,v)::r else p::putA n v r
theorem putA_cons {n m:Str} {v x:Value} {r:List (Str×Value)}:putA n v ((m,x)::r)=if m=n then(m,v)::r else(m,x)::putA n v r:=rfl
theorem putA_len {n:Str} {v:Value} (l:List (Str×Value)):(putA n v l).length≤l.length+1:=by
 induction l with
 | nil=>exact Nat.le_refl _
 | cons p r ih=>
  obtain⟨m,y⟩:=p
  rw [putA_cons]
  by_cases q:m=n
  ·rw [if_pos q];exact Nat.le_succ _
  ·rw [if_neg q];exact Nat.succ_le_succ ih
theorem isStr_str (n m:Str) (t:Tok):(Value.str n t).isStr m=(n == m):=rfl
theorem Ents.find {name:Str} {es:List DictEntry} {l:List (Str×Value)} (h:Ents es l):es.find? (·.key.isStr name)=none∧l.lookup name=none∨∃e,es.find? (·.key.isStr name)=some e∧l.lookup name=some e.val:=by
 induction h with
 | nil=>exact .inl ⟨rfl,rfl⟩
 | @cons e es n v l hk hv hr ih=>
  obtain⟨t,hk⟩:=hk
  rw [List.find?_cons,List.lookup_cons,hk,isStr_str]
  by_cases q:n=name
  ·subst q
   rw [beq_self_eq_true]
   exact .inr ⟨e,rfl,congrArg some hv.symm⟩
  ·rw [beq_eq_false_iff_ne.mpr q,beq_eq_false_iff_ne.mpr (Ne.symm q)]
   exact ih
theorem Ents.noRef {es:List DictEntry} {l:List (Str×Value)} (h:Ents es l):es.any (·.refKey)=false:=by
 induction h with
 | nil=>rfl
 | cons hk hv hr ih=>
  obtain⟨t,hk⟩:=hk
  rw [List.any_cons,ih,DictEntry.refKey,hk];rfl
theorem Ents.getL {name:Str} {es:List DictEntry} {l:List (Str×Value)} (h:Ents es l):getL name es=some (l.lookup name):=by
 unfold PySem.W.getL
 rcases h.find (name:=name)with⟨a,b⟩ | ⟨e,a,b⟩
 ·rw [a,b,h.noRef];rfl
 ·rw [a,b]
theorem Ents.put {name:Str} {hsh:Int} {t:Tok} {v:Value} {es:List DictEntry} {l:List (Str×Value)} (h:Ents es l):Ents (putL name hsh (.str name t) v es) (putA name v l):=by
 induction h with
 | nil=>exact .cons ⟨t,rfl⟩ rfl .nil
 | @cons e es n x l hk hv hr ih=>
  obtain⟨t',hk⟩:=hk
  rw [putA_cons,putL,hk,isStr_str]
  by_cases q:n=name
  ·rw [if_pos q,if_pos (beq_iff_eq.mpr q)];exact .cons ⟨t',rfl⟩ rfl hr
  ·rw [beq_eq_false_iff_ne.mpr q,if_neg q]
   exact .cons ⟨t',hk⟩ hv ih
theorem Ents.length {es:List DictEntry} {l:List (Str×Value)} (h:Ents es l):es.length=l.length:=by
 induction h with
 | nil=>rfl
 | cons hk hv hr ih=>exact congrArg (· +1) ih
noncomputable def InsD (l:List (Str×Value)):OP:=fun o=>∃es n,o=dictOf es n∧Ents es l
noncomputable abbrev hp0:Heap:={ objs:= #[]}
noncomputable def others (h:Heap) (L x:Addr):List (Addr×Obj):=(List.range h.objs.size).filterMap fun b=>if b=L∨b=x then none else(h.get? b).map fun o=>(b,o)
theorem mem_others {h:Heap} {L x b:Addr} {o:Obj}:(b,o)∈others h L x ↔ b≠L∧b≠x∧h.get? b=some o:=by
 unfold others
 rw [List.mem_filterMap]
 constructor
 ·rintro⟨a,_,e⟩
  split at e
  ·contradiction
  ·rename_i hn
   obtain⟨o',ho,e'⟩:=Option.map_eq_some_iff.mp e
   obtain⟨rfl,rfl⟩:=Prod.mk.inj e'
   exact⟨fun q=>hn (.inl q),fun q=>hn (.inr q),ho⟩
 ·rintro⟨h1,h2,h3⟩
  refine⟨b,List.mem_range.mpr (Heap.lt_size h3),?_⟩
  rw [if_neg (by rintro(q | q);exact h1 q;exact h2 q),h3];rfl
section
variable {prog:Program} {w:World} {A:Around} {env:Env} {h:Heap} {X:Value→Heap→Prop} {B:PM} {ms:List (Addr×OP)} {L:Addr} {nms:List Str} {avs:List AV} {pos:Pos} {K:Frag}
noncomputable def InK (K:Frag) (B:PM):Prop:=∀a o,K.lookup a=some o→B a=some o
theorem InK.in (k:InK K B) (S:St B ms h):K.In h:=fun a o e=>S.keep a o (k a o e)
theorem InK.le {B':PM} (k:InK K B) (hb:B.le B'):InK K B':=fun a o e=>hb a o (k a o e)
theorem St.ledger (S:St B ((L,FrameO nms avs)::ms) h) {j:Nat} {x:Addr} {P:OP} (hj:ms[j]?=some (x,P)):∃m ox,Fr hp0 L h m∧News hp0 L h ([]++(x,ox)::others h L x)∧h.get? x=some ox∧P ox∧
  ∀h' ox' P',Fr hp0 L h' m→News hp0 L h' ([]++(x,ox')::others h L x)→P' ox'→St B ((L,FrameO nms avs)::ms.set j (x,P')) h':=by
 obtain⟨m,hm,hf⟩:=frame_at S
 obtain⟨ox,hx,hP⟩:=S.mem (i:=j+1) (by rw [List.getElem?_cons_succ];exact hj)
 have hne:x≠L:=by
  have nd:=S.nd
  rw [List.map_cons] at nd
  exact fun e=>(List.nodup_cons.mp nd).1 (by rw [show(L,FrameO nms avs).1=x from e.symm];exact List.mem_map_of_mem (List.mem_of_getElem? hj))
 have nn:∀b,(hp0:Heap).get? b=none:=fun b=>by
  cases q:(hp0:Heap).get? b with
  | none=>rfl
  | some o=>exact absurd (Heap.lt_size q) (Nat.not_lt_zero _)
 refine⟨m,ox,⟨hm,(fun b o e=>by rw [nn] at e;contradiction),Nat.zero_le _⟩,fun p hp=>?_,hx,hP,fun h' ox' P' F' N' hP'=>?_⟩
 ·rcases List.mem_cons.mp hp with rfl | hp
  ·exact⟨hx,hne,nn _⟩
  ·obtain⟨b,o⟩:=p
   obtain⟨a1,a2,a3⟩:=mem_others.mp hp
   exact⟨a3,a1,nn _⟩
 ·have keep:∀b o,b≠L→b≠x→h.get? b=some o→h'.get? b=some o:=fun b o h1 h2 e=>(N' (b,o) (List.mem_append_right _ (.tail _ (mem_others.mpr ⟨h1,h2,e⟩)))).1
  have hx':=(N' (x,ox') (List.mem_append_right _ (.head _))).1
  obtain⟨oL,hoL,hno⟩:=ns_iff.mp F'.ns
  obtain⟨pre,post,e1,e2⟩:∃pre post,ms=pre++(x,P)::post∧ms.set j (x,P')=pre++(x,P')::post:=by
   obtain⟨hl,he⟩:=List.getElem?_eq_some_iff.mp hj
   refine⟨ms.take j,ms.drop (j+1),?_,?_⟩
   ·rw [←he,List.getElem_cons_drop,List.take_append_drop]
   ·rw [List.set_eq_take_append_cons_drop,if_pos hl]
  rw [e2]
  rw [e1] at S
  have nd:=S.nd
  have S':St B (pre++post) h:=St.dropMid (f:=pre) (p:=(x,P)) S.drop0
  have notx:∀b,((∃o',B b=some o')∨b∈(pre++post).map (·.1))→b≠L∧b≠x:=fun b hb=>by
   rcases hb with⟨o',hb⟩ | hb
   ·have a:=S.off (L,_) (.head _)
    have b':=S.off (x,P) (.tail _ (List.mem_append_right _ (.head _)))
    dsimp only at a b'
    exact⟨fun e=>(by rw [e,a] at hb;contradiction),fun e=>(by rw [e,b'] at hb;contradiction)⟩
   ·rw [List.map_cons,List.map_append,List.map_cons] at nd
    have n1:=List.nodup_cons.mp nd
    have n2:=List.nodup_append.mp n1.2
    rw [List.map_append] at hb
    refine⟨fun e=>n1.1 (e▸?_),fun e=>?_⟩
    ·rcases List.mem_append.mp hb with hb | hb
     ·exact List.mem_append_left _ hb
     ·exact List.mem_append_right _ (.tail _ hb)
    ·subst e
     rcases List.mem_append.mp hb with hb | hb
     ·exact n2.2.2 b hb b (.head _) rfl
     ·exact(List.nodup_cons.mp n2.2.1).1 hb
  have S2:=S'.ext' (h':=h') fun b o hb e=>keep b o (notx b hb).1 (notx b hb).2 e
  have nd':=nd
  rw [List.map_cons,List.map_append,List.map_cons] at nd'
  refine⟨S2.keep,fun p hp=>?_,fun p hp=>?_,?_,fun p hp=>?_,S2.st2⟩
  ·rcases List.mem_cons.mp hp with rfl | hp
   ·exact⟨oL,hoL,m,hno,hf⟩
   ·rcases List.mem_append.mp hp with hp | hp
    ·exact S2.own p (List.mem_append_left _ hp)
    ·rcases List.mem_cons.mp hp with rfl | hp
     ·exact⟨ox',hx',hP'⟩
     ·exact S2.own p (List.mem_append_right _ hp)
  ·rcases List.mem_cons.mp hp with rfl | hp
   ·exact S.off (L,_) (.head _)
   ·rcases List.mem_append.mp hp with hp | hp
    ·exact S2.off p (List.mem_append_left _ hp)
    ·rcases List.mem_cons.mp hp with rfl | hp
     ·exact S.off (x,P) (.tail _ (List.mem_append_right _ (.head _)))
     ·exact S2.off p (List.mem_append_right _ hp)
  ·rw [List.map_cons,List.map_append,List.map_cons];exact nd'
  ·rcases List.mem_cons.mp hp with rfl | hp
   ·exact S.low (L,_) (.head _)
   ·rcases List.mem_append.mp hp with hp | hp
    ·exact S2.low p (List.mem_append_left _ hp)
    ·rcases List.mem_cons.mp hp with rfl | hp
     ·exact S.low (x,P) (.tail _ (List.mem_append_right _ (.head _)))
     ·exact S2.low p (List.mem_append_right _ hp)
theorem instAt {x C dx:Addr} {ox od:Obj} (hx:h.get? x=some ox) (hc:ox.cls = .ref C) (hd:ox.data = .plain) (hdx:ox.dict=some dx) (ho:h.get? dx=some od):InstAt h x ox C (some od):=
 ⟨hx,hc,by unfold notCls;rw [hd],by rw [hdx];exact ho⟩
theorem Ga.own {x C:Addr} {ox od:Obj} {name:Str} {l:List (Str×Value)} {v:Value} (hX:K.In h) (hC:Cls K C) (hO:OwnF K C name) (I:InstAt h x ox C (some od)) (hl:InsD l od) (hv:l.lookup name=some v) (hh:handedIn v=true):Ga prog w h (.ref x) name v:=by
 intro A g d tk os Q E b hq
 obtain⟨es,n,rfl,he⟩:=hl
 obtain⟨attr,h1,h2⟩:=hO.find
 exact get_value (s:=⟨h,g,d,tk,os⟩) hX I hC.get (findObj_own hO.has h1 h2 (by rw [lookIn_dict,he.getL,hv])) hh (hq _)
theorem Ga.slot {x C p i:Nat} {ox od:Obj} {name:Str} {v:Value} (hX:K.In h) (hC:Cls K C) (hS:SlotF K C name p i) (I:InstAt h x ox C (some od)) (hv:(ox.slots[i]?).join=some v) (hh:handedIn v=true):Ga prog w h (.ref x) name v:=by
 intro A g d tk os Q E b hq
 exact get_bind (s:=⟨h,g,d,tk,os⟩) hX I hC.get (findObj_data hS.cls hS.find hS.get hS.takes) hC.hook (wpAny_call (slot_get (s:=⟨h,g,d,tk+1,os⟩) hX I hS.slot hv (handed_on hh (hq _))))
theorem Gm.own {x C f:Addr} {ox od:Obj} {name:Str} {l:List (Str×Value)} (hX:K.In h) (hC:Cls K C) (hM:MethF K C name f) (I:InstAt h x ox C (some od)) (hl:InsD l od) (hv:l.lookup name=none):Gm prog w h (.ref x) name (.ref f) [.ref x]:=by
 intro A g d tk os Q E pl hq
 obtain⟨es,n,rfl,he⟩:=hl
 exact method_fn (s:=⟨h,g,d,tk,os⟩) hX I hC.get hC.hook hM.find hM.fn (by show(lookIn name (dictOf es n)).map _=_;rw [lookIn_dict,he.getL,hv];rfl) (hq _)
end
end
section
set_option tactic.hygienic false
open PySem PySem.W PyProof.Rows
variable [GenI]
noncomputable def PlainO (C dx:Addr) (sl:Array (Option Value)→Prop):OP:=fun o=>o.cls = .ref C∧o.data = .plain∧o.dict=some dx∧sl o.slots
section
variable {prog:Program} {w:World} {A:Around} {env:Env} {h:Heap} {X:Value→Heap→Prop} {B:PM} {ms:List (Addr×OP)} {L:Addr} {nms:List Str} {avs:List AV} {pos:Pos} {K:Frag}
theorem InsD.nil:InsD [] (emptyDict):=⟨[],0,rfl,.nil⟩
inductive AtD (prog:Program) (w:World) (A:Around) (env:Env) (X:Value→Heap→Prop) (P:Flow→Heap→Prop) (L:Addr) (nms:List Str) (K:Frag) (rest:List Stmt) (o:PySem.Expr) (name:Str) (x C dx:Addr) (l:List (Str×Value)) (v:Value) (h1:Heap):Prop
 | mk (B:PM) (ms:List (Addr×OP)) (avs:List AV) (j:Nat) (sl:Array (Option Value)→Prop) (S:St B ((L,FrameO nms avs)::ms) h1) (hj:ms[j]?=some (dx,InsD l)) (hx:∃ox,h1.get? x=some ox∧PlainO C dx sl ox) (hK:InK K B) (hC:Cls K C) (hO:OwnF K C name) (hl:l.length<900) (ho:Ev prog w A env h1 o (.val (.ref x)))
  (k:∀h2,St B ((L,FrameO nms avs)::ms.set j (dx,InsD (putA name v l))) h2→Tr prog w A (execs rest env) h2 P X)
inductive AtS (prog:Program) (w:World) (A:Around) (env:Env) (X:Value→Heap→Prop) (P:Flow→Heap→Prop) (L:Addr) (nms:List Str) (K:Frag) (rest:List Stmt) (o:PySem.Expr) (name:Str) (x C dx p i:Addr) (sl:Array (Option Value)→Prop) (v:Value) (h1:Heap):Prop
 | mk (B:PM) (ms:List (Addr×OP)) (avs:List AV) (j:Nat) (od:Obj) (S:St B ((L,FrameO nms avs)::ms) h1) (hj:ms[j]?=some (x,PlainO C dx sl)) (hod:h1.get? dx=some od) (hK:InK K B) (hC:Cls K C) (hS:SlotF K C name p i) (hi:i<100) (ho:Ev prog w A env h1 o (.val (.ref x)))
  (k:∀h2,St B ((L,FrameO nms avs)::ms.set j (x,PlainO C dx fun s'=>∃s,sl s∧s'=(s++Array.replicate (i+1 - s.size) none).setIfInBounds i (some v))) h2→Tr prog w A (execs rest env) h2 P X)
theorem Cd.attrD {o e:PySem.Expr} {name:Str} {p1:Pos} {rest:List Stmt} {P:Flow→Heap→Prop} {x C dx:Addr} {l:List (Str×Value)}
  (h1:Tr prog w A (eval e env) h (AtD prog w A env X P L nms K rest o name x C dx l) X)
  (hs:swapsWith e (some (.Attribute o name p1)) pos.line env=pure false:=by rfl):Tr prog w A (execs (.Assign [.Attribute o name p1] e pos::rest) env) h P X:=by
 intro g d tk os Q E hg hq he
 refine wpAny_execs_cons (plainObj_wpAny_Assign_Attribute (h1 g d tk os _ E hg (fun v h2 g2 tk2 hg2 k=>?_) he) hs)
 obtain⟨B,ms,avs,j,sl,S,hj,⟨ox,hx,hc,hdt,hdx,_⟩,hK,hC,hO,hlen,ho,k⟩:=k
 refine ho g2 d tk2 os _ E fun ov tk3 hov=>?_
 have hov':ov = .ref x:=hov
 subst hov'
 obtain⟨m,od,F,N,hod,⟨es,n,rfl,hes⟩,back⟩:=S.ledger hj
 have I:=instAt hx hc hdt hdx hod
 refine set_plain (s:=⟨h2,g2,d,tk3,os⟩) (hK.in S) I hC.set (osa_dict (s:=⟨h2,g2,d,tk3+1,os⟩) F N (hK.in S) I hdx hC.over hO.taker hO.has (by rw [lookIn_dict,hes.getL];rfl) (fun _ h=>absurd h List.not_mem_nil) (fun p hp=>(mem_others.mp (show(p.1,p.2)∈_ from hp)).2.1)
  (putName_dict _ _ _ _ _ _) rfl ?_ fun h' F' N'=>?_)
 ·have h1:=(hes.put (name:=name) (hsh:=PyData.keyHash w.params name) (t:=tk3+1) (v:=v)).length
  have:=putA_len (n:=name) (v:=v) l
  show(putL _ _ _ _ _).length≤1000
  rw [h1];exact nt128 hlen this
 ·exact k h' (back h' _ _ F' N' ⟨_,_,rfl,hes.put⟩) g2 d _ os Q E hg2 hq he
theorem Cd.attrS {o e:PySem.Expr} {name:Str} {p1:Pos} {rest:List Stmt} {P:Flow→Heap→Prop} {x C dx p i:Addr} {sl:Array (Option Value)→Prop}
  (h1:Tr prog w A (eval e env) h (AtS prog w A env X P L nms K rest o name x C dx p i sl) X)
  (hs:swapsWith e (some (.Attribute o name p1)) pos.line env=pure false:=by rfl):Tr prog w A (execs (.Assign [.Attribute o name p1] e pos::rest) env) h P X:=by
 intro g d tk os Q E hg hq he
 refine wpAny_execs_cons (plainObj_wpAny_Assign_Attribute (h1 g d tk os _ E hg (fun v h2 g2 tk2 hg2 k=>?_) he) hs)
 obtain⟨B,ms,avs,j,od,S,hj,hod,hK,hC,hS,hi,ho,k⟩:=k
 refine ho g2 d tk2 os _ E fun ov tk3 hov=>?_
 have hov':ov = .ref x:=hov
 subst hov'
 obtain⟨m,ox,F,N,hx,⟨hc,hdt,hdx,hsl⟩,back⟩:=S.ledger hj
 have I:=instAt hx hc hdt hdx hod
 refine set_plain (s:=⟨h2,g2,d,tk3,os⟩) (hK.in S) I hC.set (osa_descr (s:=⟨h2,g2,d,tk3+1,os⟩) KF.slot_mset (hK.in S) I hC.over hS.taker hS.type
  (slot_set (s:=⟨h2,g2,d,tk3+1,os⟩) F N (hK.in S) I hS.slot (Nat.lt_of_lt_of_le hi (by decide)) (fun _ h=>absurd h List.not_mem_nil) (fun p hp=>(mem_others.mp (show(p.1,p.2)∈_ from hp)).2.1) rfl ?_ fun h' F' N'=>?_))
 ·obtain⟨c,dd,dt,sl⟩:=ox
  dsimp only at hdt
  subst hdt
  rfl
 ·exact k h' (back h' _ _ F' N' ⟨hc,hdt,hdx,_,hsl,rfl⟩) g2 d _ os Q E hg2 hq he
theorem Room.under {d u:Nat} {C:Addr} {vals:List Value} {kw:List (Str×Value)} (R:Room A (d+1) (u+4)):Room (A.under (.builtin "type.__call__" ⟨.ref C::vals,kw⟩)) d u:=
 ⟨R.hh,by rw [depth_under_kw];have:=R.dp;exact nt203 this,by
  have:=R.un
  have h2:Code.cUnits (.builtin "type.__call__" ⟨.ref C::vals,kw⟩)=1:=rfl
  show A.units+Code.cUnits (.builtin "type.__call__" ⟨.ref C::vals,kw⟩)+u<cLine
  rw [h2];exact nt206 this⟩
theorem Tc.make {C fI:Addr} {rest:List Value} {kw:List (Str×Value)} {d u:Nat} {P:Value→Heap→Prop} (R:Room A (d+1) (u+4)) (hK:InK K B) (hC:Cls K C) (hI:MethF K C "__init__" fI) (S:St B ms h)
  (k:∀x dx h1 A',Room A' d u→St B ((x,PlainO C dx fun s=>s = #[])::(dx,InsD [])::ms) h1→Tc prog w A' (.call (.ref fI) ⟨.ref x::rest,kw⟩) h1 (fun v h2=>v = .none∧P (.ref x) h2) X):
  Tc prog w A (.call (.ref C) ⟨rest,kw⟩) h P X:=by
 intro g dr tk os Q E hg hq he
 refine make_core (makes_of (hK.in S) hC.makes) (looks_findIn (hK.in S) hI.find) (fun self=>bind_fn (hK.in S) self hI.fn) (.inl rfl) ?_
 have S1:=(S.pushM (o:=emptyDict) (P:=InsD []) InsD.nil).pushM (o:=instObj C h.objs.size) (P:=PlainO C h.objs.size fun s=>s = #[]) ⟨rfl,rfl,rfl,rfl⟩
 rw [Heap.size_push] at S1
 refine codeAny_mono (k _ _ _ _ R.under S1 g dr tk os (fun v s'=>v = .none∧Q (.ref (h.objs.size+1)) s') E hg (fun a h' g' tk' hg' hp=>⟨hp.1,hq _ _ _ _ hg' hp.2⟩) he) fun r s' z=>?_
 rcases r with e | (v | _ | _ | _)
 ·exact z
 all_goals first | exact z.elim | exact z
end
end
section
set_option tactic.hygienic false
open PySem PySem.W PyProof.Rows
variable [GenI]
theorem St.weak0 {B:PM} {a:Addr} {P P':OP} {ms:List (Addr×OP)} {h:Heap} (S:St B ((a,P)::ms) h) (hp:∀o,P o→P' o):St B ((a,P')::ms) h:=by
 obtain⟨o,ho,p⟩:=S.mem (i:=0) rfl
 exact St.updMid (f:=[]) S (fun _ _ _ e=>e) ho (hp o p)
section
variable {prog:Program} {w:World} {A:Around} {env:Env} {h:Heap} {X:Value→Heap→Prop} {B:PM} {ms:List (Addr×OP)} {L:Addr} {nms:List Str} {avs:List AV} {pos:Pos} {K:Frag}
theorem Ev.and {e1 e2:PySem.Expr} {r:List PySem.Expr} {b1 b2:Bool} (h1:Ev prog w A env h e1 (.val (.bool b1))) (h2:b1=true→Ev prog w A env h (.BoolOp .And (e2::r) pos) (.val (.bool b2))):Ev prog w A env h (.BoolOp .And (e1::e2::r) pos) (.val (.bool (b1 && b2))):=
 fun g d tk os Q E hq=>BoolOp_and (h1 g d tk os _ E fun v tk1 hv=>by
  have hv':v = .bool b1:=hv
  subst hv'
  refine wpAny_truthy_bool ?_
  cases b1 with
  | false=>exact hq _ _ rfl
  | true=>exact h2 rfl g d tk1 os Q E hq)
theorem Ev.one {op:BoolOp} {e:PySem.Expr} {av:AV} (h1:Ev prog w A env h e av):Ev prog w A env h (.BoolOp op [e] pos) av:=fun g d tk os Q E hq=>BoolOp_one (h1 g d tk os Q E hq)
theorem Ev.or {e1 e2:PySem.Expr} {r:List PySem.Expr} {b1 b2:Bool} (h1:Ev prog w A env h e1 (.val (.bool b1))) (h2:b1=false→Ev prog w A env h (.BoolOp .Or (e2::r) pos) (.val (.bool b2))):Ev prog w A env h (.BoolOp .Or (e1::e2::r) pos) (.val (.bool (b1 || b2))):=
 fun g d tk os Q E hq=>BoolOp_or (h1 g d tk os _ E fun v tk1 hv=>by
  have hv':v = .bool b1:=hv
  subst hv'
  refine wpAny_truthy_bool ?_
  cases b1 with
  | true=>exact hq _ _ rfl
  | false=>exact h2 rfl g d tk1 os Q E hq)
theorem Ev.neg {e:PySem.Expr} {i:Int} (h1:Ev prog w A env h e (.int i)):Ev prog w A env h (.UnaryOp .USub e pos) (.int (-i)):=
 fun g d tk os Q E hq=>wpAny_UnaryOp (h1 g d tk os _ E fun v tk1 ⟨t,hv⟩=>by subst hv;exact neg_int (hq _ _ ⟨_,rfl⟩))
theorem Kp.ofFn {a:Addr} {s:Stmt} {qual:Str} {dV kV:Value} (S:St B ms h) (F:FnAt B a s qual dV kV):Kp prog w h (.ref a):=by
 obtain⟨oc,od,sl,x,e,_⟩:=F
 exact .fn (S.keep _ _ e) rfl
theorem Ev.weak {e:PySem.Expr} {a b:AV} (h1:Ev prog w A env h e a) (hab:∀v,a.ok v→b.ok v):Ev prog w A env h e b:=fun g d tk os Q E hq=>h1 g d tk os Q E fun v tk1 hv=>hq v tk1 (hab v hv)
theorem Ev.bEq {e:PySem.Expr} {b b':Bool} (h1:Ev prog w A env h e (.val (.bool b))) (e1:b=b'):Ev prog w A env h e (.val (.bool b')):=e1▸h1
theorem Ec.isType {a b:String}:Ec prog w A h .Is (.val (.type a)) (.val (.type b)) (Value.type a == Value.type b):=fun g d tk os Q E va vb ha hb hq=>by
 have ha':va = .type a:=ha
 have hb':vb = .type b:=hb
 subst ha' hb'
 show wpAny _ A (do return .bool (←isSame (.type a) (.type b))) Q E _
 have e:isSame (.type a) (.type b)=(Pure.pure (Value.type a == Value.type b):Sem Bool):=rfl
 rw [e];exact wpAny_bind (wpAny_pure (wpAny_pure (hq _)))
theorem Tr.typeInt {i:Int} {t:Tok} {P:Value→Heap→Prop} (hp:P (.type "int") h):Tr prog w A (call (.type "type") [.int i t]) h P X:=
 fun g d tk os Q E hg hq he=>call_type_of (typeIs_int _ _ _) (by decide) (hq _ _ _ _ hg hp)
theorem Kp.type {T:String}:Kp prog w h (.type T):=⟨.machine,.inr (.inl rfl),Looks.of_pure rfl⟩
theorem Ev.g' {x:Str} {v:Value} {av:AV} (O:EnvOk env L nms) (S:St B ms h) (G:GName B x v) (ha:av.ok v) (hl:env.kindOf x=some .globalImplicit:=by rfl) (hd:(x == ("__debug__" :Str))=false:=by decide):Ev prog w A env h (.Name x pos) av:=
 (Ev.g O S G hl hd).weak fun v' hv'=>by
  have:v'=v:=hv'
  subst this;exact ha
noncomputable def sKind:Stmt:=topSt 14
theorem okKind {L a:Addr} {cd:Value}:EnvOk (envF sKind "_count_kind" L a cd) L ["x","t"]:= .of (by decide +kernel)
theorem kind_ok' {i:Int} {t:Tok} (R:Room A 2 10) (F:FnAt B 143 sKind "_count_kind" .none .none) (hl:NoLim B) (Gt:GName B "type" (.type "type")) (Gi:GName B "int" (.type "int")) (S:St B ms h):
  Tr prog w A (call (.ref 143) [.int i t]) h (fun v h'=>(∃t,v = .int 0 t)∧St B ms h') X:=by
 refine Tc.tr (Tc.callFn (d:=1) (u:=7) R F hl S (binds:=[("x",.int i t)]) (fun x s' _=>.of_eq rfl) ["x","t"] [.int i,.any] (.cons ⟨t,rfl⟩ (.cons trivial .nil)) (fun x hx=>by rw [List.mem_singleton.mp hx];rfl) fun L h1 cd A' R' S1=>?_)
 refine Cd.assign okKind 1 rfl (.callName (.g okKind S1 Gt) (.evE (.name okKind S1 0 rfl rfl) fun v hv=>.evNil ⟨.type,?_⟩))
 obtain⟨t',rfl⟩:=hv
 refine .typeInt ⟨_,_,_,.val (.type "int"),S1,rfl,fun h2 S2=>?_⟩
 refine Cd.ifT (Et.eq (.bool (.or (b2:=true) (.cmp (.name okKind S2 1 rfl rfl) (.g okKind S2 Gi) .isType) (by nofun))) rfl) ?_
 exact Cd.retE .cInt fun v hv=>⟨hv,S2.drop0⟩
noncomputable def sCInit:Stmt:=clsSt 15 1
theorem okCInit {L a:Addr} {cd:Value}:EnvOk (envF sCInit "count.__init__" L a cd) L ["self","start","step","k_start","k_step","fast"]:= .of (by decide +kernel)
noncomputable def CountO (dx:Addr) (i:Int):OP:=PlainO 184 dx fun s=>∃t f t',s = #[some (.int i t),some f,some (.int 1 t')]
structure CountF (K:Frag) (B:PM):Prop where
 cls:Cls K 184
 init:MethF K 184 "__init__" 159
 next:MethF K 184 "__next__" 173
 cnt:SlotF K 184 "_cnt" 185 0
 fast:SlotF K 184 "_fast" 186 1
 step:SlotF K 184 "_step" 187 2
 fInit:∃T o,FnAt B 159 sCInit "count.__init__" (.ref T) .none∧B T=some o∧∃t t' n,o.data = .seq #[.int 0 t,.int 1 t'] n
 fNext:FnAt B 173 (clsSt 15 3) "count.__next__" .none .none
 fKind:FnAt B 143 sKind "_count_kind" .none .none
 gKind:GName B "_count_kind" (.ref 143)
 gType:GName B "type" (.type "type")
 gInt:GName B "int" (.type "int")
 gMax:∃t,GName B "_MAXSIZE" (.int 9223372036854775807 t)
 lim:NoLim B
theorem CountF.le {B':PM} (F:CountF K B) (h:B.le B'):CountF K B':=by
 obtain⟨T,o,f,e,r⟩:=F.fInit
 obtain⟨t,gm⟩:=F.gMax
 exact⟨F.cls,F.init,F.next,F.cnt,F.fast,F.step,⟨T,o,f.le h,h _ _ e,r⟩,F.fNext.le h,F.fKind.le h,F.gKind.le h,F.gType.le h,F.gInt.le h,⟨t,gm.le h⟩,F.lim.le h⟩
noncomputable def setSl (s:Array (Option Value)) (i:Nat) (v:Option Value):Array (Option Value):=(s++Array.replicate (i+1 - s.size) none).setIfInBounds i v
theorem slots3 (a b c:Option Value):setSl (setSl (setSl #[] 1 a) 0 b) 2 c = #[b,a,c]:=by
 have e1:setSl #[] 1 a = #[none,a]:=rfl
 have e2:setSl #[none,a] 0 b = #[b,a]:=rfl
 have e3:setSl #[b,a] 2 c = #[b,a,c]:=rfl
 rw [e1,e2,e3]
theorem cinit_ok {x dx:Addr} (R:Room A 4 20) (hK:InK K B) (F:CountF K B) (S:St B ((x,PlainO 184 dx fun s=>s = #[])::(dx,InsD [])::ms) h):
  Tc prog w A (.call (.ref 159) ⟨[.ref x],[]⟩) h (fun v h2=>v = .none∧St B ((x,CountO dx 0)::(dx,InsD [])::ms) h2) X:=by
 obtain⟨T,oT,fI,hT,tA,tB,nT,hTd⟩:=F.fInit
 refine Tc.callFn (d:=3) (u:=17) R fI F.lim S (binds:=[("self",.ref x),("start",.int 0 tA),("step",.int 1 tB)]) (fun x' s' hs'=>?_) ["self","start","step","k_start","k_step","fast"] [.val (.ref x),.int 0,.int 1,.any,.any,.any]
  (.cons rfl (.cons ⟨_,rfl⟩ (.cons ⟨_,rfl⟩ (.cons trivial (.cons trivial (.cons trivial .nil)))))) (fun x hx=>?_) fun L h1 cd A' R' S1=>?_
 ·exact BindsTo.of_defaults rfl (by rw [hs'];exact S.keep _ _ hT) hTd rfl rfl
 ·rcases List.mem_cons.mp hx with rfl | hx
  ·rfl
  ·rcases List.mem_cons.mp hx with rfl | hx
   ·rfl
   ·rw [List.mem_singleton.mp hx];rfl
 have hd2:∃od,h1.get? dx=some od:=(S1.mem (i:=2) rfl).imp fun _ z=>z.1
 refine Cd.assign okCInit 3 rfl (.callName (.g okCInit S1 F.gKind) (.evE (.name okCInit S1 1 rfl rfl) fun v hv=>.evNil ⟨Kp.ofFn S1 F.fKind,?_⟩))
 obtain⟨t1,rfl⟩:=hv
 refine(kind_ok' (R'.le (by decide) (by decide)) F.fKind F.lim F.gType F.gInt S1).post fun v h2 ⟨hv,S2⟩=>⟨_,_,_,.int 0,S2,hv,fun h3 S3=>?_⟩
 refine Cd.assign okCInit 4 rfl (.callName (.g okCInit S3 F.gKind) (.evE (.name okCInit S3 2 rfl rfl) fun v hv=>.evNil ⟨Kp.ofFn S3 F.fKind,?_⟩))
 obtain⟨t2,rfl⟩:=hv
 refine(kind_ok' (R'.le (by decide) (by decide)) F.fKind F.lim F.gType F.gInt S3).post fun v h4 ⟨hv,S4⟩=>⟨_,_,_,.int 0,S4,hv,fun h5 S5=>?_⟩
 refine Cd.ifF (Et.eq (.bool (.or (b2:=false) (.cmp (.name okCInit S5 3 rfl rfl) .cInt .eq) (fun _=>.or (b2:=false) (.cmp (.name okCInit S5 4 rfl rfl) .cInt .eq) fun _=>.orNil))) (by decide)) ?_
 obtain⟨tM,gM⟩:=F.gMax
 have eM:∀pos,Ev prog w A' (envF sCInit "count.__init__" L 159 cd) h5 (.Name "_MAXSIZE" pos) (.int 9223372036854775807):=fun pos=>.g' okCInit S5 gM ⟨_,rfl⟩
 refine Cd.assignE okCInit S5 5 rfl (av:= .val (.bool true)) (Ev.bEq (.and (.cmp (.name okCInit S5 3 rfl rfl) .cInt .eq) fun _=>.and (.cmp (.name okCInit S5 4 rfl rfl) .cInt .eq) fun _=>.and (.cmp (.name okCInit S5 2 rfl rfl) .cInt .eq) fun _=>
  .and (.cmp (.sub (.neg (eM _)) .cInt) (.name okCInit S5 1 rfl rfl) .le) fun _=>.one (.cmp (.name okCInit S5 1 rfl rfl) (eM _) .le)) (by decide)) fun h6 S6=>?_
 refine Cd.ifT (.val (.name okCInit S6 5 rfl rfl)) ?_
 refine Cd.assignE okCInit S6 1 rfl (.add (.name okCInit S6 1 rfl rfl) .cInt) fun h7 S7=>?_
 have K7:K.In h7:=hK.in S7
 obtain⟨od,hod,hod'⟩:=S7.mem (i:=2) rfl
 refine Cd.attrS (.ofEv (.name okCInit S7 5 rfl rfl) fun v hv=>⟨_,_,_,0,od,S7,rfl,hod,hK,F.cls,F.fast,by decide,.name okCInit S7 0 rfl rfl,fun h8 S8=>?_⟩)
 obtain⟨od,hod,hod'⟩:=S8.mem (i:=2) rfl
 refine Cd.attrS (.ofEv (.name okCInit S8 1 rfl rfl) fun v1 hv1=>⟨_,_,_,0,od,S8,rfl,hod,hK,F.cls,F.cnt,by decide,.name okCInit S8 0 rfl rfl,fun h9 S9=>?_⟩)
 obtain⟨od,hod,hod'⟩:=S9.mem (i:=2) rfl
 refine Cd.attrS (.ofEv (.name okCInit S9 2 rfl rfl) fun v2 hv2=>⟨_,_,_,0,od,S9,rfl,hod,hK,F.cls,F.step,by decide,.name okCInit S9 0 rfl rfl,fun h10 S10=>?_⟩)
 refine Cd.nil ⟨rfl,St.weak0 S10.drop0 ?_⟩
 rintro o ⟨c1,c2,c3,s1,⟨s2,⟨s3,rfl,rfl⟩,rfl⟩,e⟩
 obtain⟨tc,rfl⟩:=hv1
 obtain⟨ts,rfl⟩:=hv2
 exact⟨c1,c2,c3,tc,v,ts,e.trans (slots3 _ _ _)⟩
end
end
section
open PySem PySem.W PyProof.Rows
variable [GenI]
section
variable {prog:Program} {w:World} {A:Around} {env:Env} {h:Heap} {X:Value→Heap→Prop} {B:PM} {ms:List (Addr×OP)} {L:Addr} {nms:List Str} {avs:List AV} {pos:Pos} {K:Frag}
theorem count_ok (R:Room A 6 30) (hK:InK K B) (F:CountF K B) (S:St B ms h):
  Tr prog w A (call (.ref 184) []) h (fun v h2=>∃x dx B' od,v = .ref x∧B.le B'∧B' dx=some od∧St B' ((x,CountO dx 0)::ms) h2) X:=
 Tc.tr (Tc.make (d:=5) (u:=26) R hK F.cls F.init S fun x dx h1 A' R' S1=>by
  intro g d tk os Q E hg hq he
  refine cinit_ok (R'.le (by decide) (by decide)) hK F S1 g d tk os Q E hg (fun v h2 g2 tk2 hg2 hp=>hq v h2 g2 tk2 hg2 ⟨hp.1,?_⟩) he
  have S2:St B ((dx,InsD [])::(x,CountO dx 0)::ms) h2:=hp.2.perm (List.Perm.swap ..)
  obtain⟨od,hod,_⟩:=S2.mem (i:=0) rfl
  exact⟨x,dx,_,od,rfl,PM.le_put (S2.off _ (.head _)),PM.put_self,S2.freeze0 hod⟩)
noncomputable def sNext:Stmt:=clsSt 15 3
theorem okNext {L a:Addr} {cd:Value}:EnvOk (envF sNext "count.__next__" L a cd) L ["self","value"]:= .of (by decide +kernel)
theorem lookup_set {ms:List (Addr×OP)} {j:Nat} {p q:Addr×OP} (hj:ms[j]?=some p):(ms.set j q)[j]?=some q:=by
 obtain⟨hl,_⟩:=List.getElem?_eq_some_iff.mp hj
 rw [List.getElem?_set_self hl]
theorem set_set {ms:List (Addr×OP)} {j:Nat} {p q:Addr×OP}:(ms.set j p).set j q=ms.set j q:=List.set_set _
theorem St.weakAt {i:Nat} {a:Addr} {P P':OP} (S:St B (ms.set i (a,P)) h) (hi:i<ms.length) (hp:∀o,P o→P' o):St B (ms.set i (a,P')) h:=by
 refine St.weak S ?_ fun j b Q Q' e e'=>?_
 ·rw [List.map_set,List.map_set]
 ·rw [List.getElem?_set] at e e'
  split at e
  ·rename_i hij
   rw [if_pos hij,if_pos (nt227 hi hij)] at e'
   obtain e00:=Option.some.inj e;obtain⟨rfl,rfl⟩:=Prod.mk.inj e00;obtain e'00:=Option.some.inj e';obtain⟨_,rfl⟩:=Prod.mk.inj e'00;exact hp
  ·rename_i hij
   rw [if_neg hij] at e'
   cases e.symm.trans e'
   exact fun _ z=>z
theorem St.weakI {i:Nat} {a:Addr} {P P':OP} (S:St B ms h) (hi:ms[i]?=some (a,P)) (hp:∀o,P o→P' o):St B (ms.set i (a,P')) h:=by
 obtain⟨l,e⟩:=List.getElem?_eq_some_iff.mp hi
 have e:ms.set i (a,P)=ms:=by rw [←e];exact List.set_getElem_self l
 exact St.weakAt (P:=P) (e.symm▸S) l hp
theorem cnext_ok {x dx:Addr} {i:Int} {j:Nat} {od:Obj} (R:Room A 2 10) (hK:InK K B) (F:CountF K B) (S:St B ms h) (hj:ms[j]?=some (x,CountO dx i)) (hdx:B dx=some od):
  Tr prog w A (call (.ref 173) [.ref x]) h (fun v h2=>(∃t,v = .int i t)∧St B (ms.set j (x,CountO dx (i+1))) h2) X:=by
 refine Tc.tr (Tc.callFn (d:=1) (u:=7) R F.fNext F.lim S (binds:=[("self",.ref x)]) (fun x' s' hs'=>.of_eq rfl) ["self","value"] [.val (.ref x),.any] (.cons rfl (.cons trivial .nil)) (fun x hx=>by rw [List.mem_singleton.mp hx];rfl) fun L h1 cd A' R' S1=>?_)
 have hlt:j<ms.length:=(List.getElem?_eq_some_iff.mp hj).1
 have rd:∀{h1:Heap} {avs},St B ((L,FrameO ["self","value"] avs)::ms) h1→∃ox t f t',InstAt h1 x ox 184 (some od)∧ox.slots = #[some (.int i t),some f,some (.int 1 t')]:=fun {h1 avs} S1=>by
  obtain⟨ox,hx,c1,c2,c3,t,f,t',e⟩:=S1.mem (i:=j+1) (by rw [List.getElem?_cons_succ];exact hj)
  exact⟨ox,t,f,t',instAt hx c1 c2 c3 (S1.keep _ _ hdx),e⟩
 obtain⟨ox,t,f,t',I,e⟩:=rd S1
 refine Cd.assignE okNext S1 1 rfl (av:= .int i) (.weak (.attr (.name okNext S1 0 rfl rfl) (.slot (hK.in S1) F.cls F.cnt I (v:= .int i t) (by rw [e];rfl) rfl)) (fun v hv=>⟨t,hv⟩)) fun h2 S2=>?_
 obtain⟨ox,t,f,t',I,e⟩:=rd S2
 refine Cd.attrS (.ofEv (.add (.name okNext S2 1 rfl rfl) (.weak (.attr (.name okNext S2 0 rfl rfl) (.slot (hK.in S2) F.cls F.step I (v:= .int 1 t') (by rw [e];rfl) rfl)) (fun v hv=>⟨t',hv⟩)) (b:=1)) fun v hv=>⟨_,_,_,j,od,S2,hj,S2.keep _ _ hdx,hK,F.cls,F.cnt,by decide,.name okNext S2 0 rfl rfl,fun h3 S3=>?_⟩)
 refine Cd.retE (.name okNext S3 1 rfl rfl) fun v' hv'=>⟨hv',St.weakAt S3.drop0 hlt ?_⟩
 rintro o ⟨c1,c2,c3,s,⟨ta,fa,tb,rfl⟩,e⟩
 obtain⟨tv,rfl⟩:=hv
 exact⟨c1,c2,c3,tv,fa,tb,e.trans rfl⟩
end
end
section
set_option tactic.hygienic false
open PySem PySem.W PyProof.Rows
variable [GenI]
noncomputable def wAv:Option Nat→AV
 | some c=>.int (c:Nat)
 | none=>.val .none
noncomputable def DataO (prog:Program) (w:World) (oc:Option Nat):OP:=fun o=>∃es ep kvs,o.ExactDict∧o.data = .dict es ep∧KeysOf (strKind prog w) es∧Pairs (strKind prog w) es.toList kvs∧(kvs.map (·.1)).Nodup∧kvs.length≤1∧avOk (oc.map fun c:Nat=>AV.int c) (valueAt kvs ("weight" :Str))
section
variable {prog:Program} {w:World} {A:Around} {env:Env} {h:Heap} {X:Value→Heap→Prop} {B:PM} {ms:List (Addr×OP)} {L:Addr} {nms:List Str} {avs:List AV} {pos:Pos} {K:Frag}
theorem Tr.cStr {x:Str} {k:Nat} {P:Value→Heap→Prop} (hp:∀t,P (.str x t) h):Tr prog w A (eval (.Constant (.str x) k pos) env) h P X:=
 fun _ _ _ _ _ _ hg hq _=>Calls.Constant_str (hq _ _ _ _ hg (hp _))
theorem args_next (a:Value):argsOk "next" ⟨[a],[]⟩:=by unfold argsOk;kernel_rfl
theorem Tr.next {x dx:Addr} {i:Int} {j:Nat} {od:Obj} (R:Room A 3 15) (hK:InK K B) (F:CountF K B) (S:St B ms h) (hj:ms[j]?=some (x,CountO dx i)) (hdx:B dx=some od):
  Tr prog w A (call (.builtin "next") [.ref x]) h (fun v h2=>(∃t,v = .int i t)∧St B (ms.set j (x,CountO dx (i+1))) h2) X:=by
 intro g d tk os Q E hg hq he
 obtain⟨ox,hx,c1,c2,c3,_⟩:=S.mem hj
 have I:=instAt hx c1 c2 c3 (S.keep _ _ hdx)
 refine Calls.call_function_entry (by decide +kernel) (by decide +kernel) kdk_entry_next (args_next _) ?_
 unfold Builtin.«next»
 refine wpAny_bind (m:=someArgs "next" 1 2 _) (wpAny_of_eq (a:=[Value.ref x]) (by first | rfl | kernel_rfl!) ?_)
 dsimp only
 refine wpAny_bind (m:=specialOf _ _) ((I.type.andThen (looks_findIn (hK.in S) F.next.find)).at ?_)
 refine wpAny_ite_split (fun hab=>absurd hab (by simp)) (fun _=>?_)
 refine wpAny_bind (special_fn (s:=⟨h,g,d,tk,os⟩) (hK.in S) I F.next.find F.next.fn ?_)
 have R1:Room A.in1 2 10:=⟨R.hh,by have:=R.dp;show A.depth+2<_;exact nt121 this,by have:=R.un;show A.units+1+10<_;exact nt117 this⟩
 exact cnext_ok R1 hK F S hj hdx g d tk os _ _ hg (fun v h2 g2 tk2 hg2 p=>wpAny_pure ⟨v,rfl,hq v h2 g2 tk2 hg2 p⟩) (fun e h2 g2 tk2 hg2 p=>he e h2 g2 tk2 hg2 p)
theorem Gm.builtin {o:Value} {T id:String} {name:Str} (hT:∀g d tk os,Shared.TypeIs ⟨h,g,d,tk,os⟩ o T) (pa:PlainAttrs T) (slot:Slot T name id) (hty:typeOf (.builtin id)=pure (.type "method_descriptor")) (hd:∀a,o = .ref a→∃ob,h.get? a=some ob∧ob.dict=none):Gm prog w h o name (.builtin id) [o]:=
 fun A g d tk os Q E pl hq=>getMethod_builtin (hT g d tk os) pa slot hty hd (hq _)
noncomputable def sLw:Stmt:=topSt 39
theorem okLw {L a:Addr} {cd:Value}:EnvOk (envF sLw "_law_weight" L a cd) L ["v","w","data"]:= .of (by decide +kernel)
theorem lw_ok {v1 v2:Value} {da:Addr} {o:Obj} {oc:Option Nat} (R:Room A 2 10) (F:FnAt B 966 sLw "_law_weight" .none .none) (hl:NoLim B) (S:St B ms h) (hda:B da=some o) (hD:DataO prog w oc o) (hs:(da == sysModules)=false):
  Tr prog w A (call (.ref 966) [v1,v2,.ref da]) h (fun v h'=>(wAv oc).ok v∧St B ms h') X:=by
 refine Tc.tr (Tc.callFn (d:=1) (u:=7) R F hl S (binds:=[("v",v1),("w",v2),("data",.ref da)]) (fun x s' _=>.of_eq rfl) ["v","w","data"] [.any,.any,.val (.ref da)] (.cons trivial (.cons trivial (.cons rfl .nil))) (fun x hx=>?_) fun L h1 cd A' R' S1=>?_)
 ·rcases List.mem_cons.mp hx with rfl | hx
  ·rfl
  ·rcases List.mem_cons.mp hx with rfl | hx
   ·rfl
   ·rw [List.mem_singleton.mp hx];rfl
 obtain⟨es,ep,kvs,h1',h2,h3,h4,h5,h6,h7⟩:=hD
 have hdo:∀{h1:Heap},h1.get? da=some o→h1.DictOf (strKind prog w) da kvs:=fun e=>⟨o,es,ep,e,h1',h2,h3,h4,h5⟩
 have hd1:=hdo (S1.keep _ _ hda)
 refine Cd.ret (.callMeth (.name okLw S1 2 rfl rfl) (.builtin (fun g d tk os=>hd1.mapOf.typeIs (s:=⟨h1,g,d,tk,os⟩)) PySem.F.plainAttrs_dict PySem.F.slot_dict_get PySem.F.type_dict_get hd1.mapOf.noDict) (.evCons (.cStr fun t=>.evNil ⟨.builtin,?_⟩)))
 intro g d tk os Q E hg hq he
 refine call_meetsIn PySem.F.slot_dict_get hd1.mapOf.typeIs PySem.F.entry_dict_get (PySem.F.args_dict_get_2 _ _) (meets_dict_get (strKind prog w) da (strKind_is prog w _ t) hs) ⟨_,hd1.mapOf,?_⟩
 refine hq _ _ _ _ hg ⟨?_,S1.drop0⟩
 cases oc with
 | none=>
  have e:valueAt kvs ("weight" :Str)=none:=h7
  show(wAv _).ok ((valueAt kvs ("weight" :Str)).getD .none)
  rw [e];rfl
 | some c=>
  obtain⟨v,e,t',rfl⟩:=h7
  show(wAv _).ok ((valueAt kvs ("weight" :Str)).getD .none)
  rw [e];exact⟨t',rfl⟩
noncomputable abbrev getA (l:List (Str×Value)) (x:Str):Option Value:=l.lookup x
noncomputable def clsOf (dir:Bool):Addr:=if dir then 949 else 780
structure RowB (prog:Program) (w:World) (B:PM) (a:Addr) (n:Nat) (e:Nat→Option (Option Nat)) (kvs:List (Int×Value)):Prop where
 at_:∃o,B a=some o∧DictO prog w kvs o
 sound:∀p∈kvs,∃k:Nat,k<n∧p.1=k∧∃oc da od,e k=some oc∧p.2 = .ref da∧B da=some od∧DataO prog w oc od∧(da == sysModules)=false
 full:∀k:Nat,(e k).isSome=true→∃p∈kvs,p.1=k
structure TabB (prog:Program) (w:World) (B:PM) (a:Addr) (n:Nat) (E:Nat→Nat→Option (Option Nat)):Prop where
 rows:∃(r:Nat→Addr) (o:Obj),B a=some o∧MapO prog w n (fun k=>if k<n then some (.val (.ref (r k)))else none) o∧∀k<n,(r k == sysModules)=false∧∃kvs,RowB prog w B (r k) n (E k) kvs
theorem RowB.le {B':PM} {a n e kvs} (r:RowB prog w B a n e kvs) (h:B.le B'):RowB prog w B' a n e kvs:=by
 obtain⟨⟨o,ho,hd⟩,s,f⟩:=r
 refine⟨⟨o,h _ _ ho,hd⟩,fun p hp=>?_,f⟩
 obtain⟨k,hk,e1,oc,da,od,e2,e3,e4,r⟩:=s p hp
 exact⟨k,hk,e1,oc,da,od,e2,e3,h _ _ e4,r⟩
theorem TabB.le {B':PM} {a n E} (r:TabB prog w B a n E) (h:B.le B'):TabB prog w B' a n E:=by
 obtain⟨r,o,ho,hm,hr⟩:=r
 refine⟨r,o,h _ _ ho,hm,fun k hk=>?_⟩
 obtain⟨h1,kvs,hr⟩:=hr k hk
 exact⟨h1,kvs,hr.le h⟩
structure GrB (prog:Program) (w:World) (B:PM) (dir:Bool) (net dn:Addr) (n:Nat) (E:Nat→Nat→Option (Option Nat)) (l:List (Str×Value)):Prop where
 inst:∃ox,B net=some ox∧PlainO (clsOf dir) dn (fun _=>True) ox
 node:∃nd o,getA l "_node" =some (.ref nd)∧B nd=some o∧(nd == sysModules)=false∧MapO prog w n (fun k=>if k<n then some .any else none) o
 adj:∃ad,getA l "_adj" =some (.ref ad)∧TabB prog w B ad n E∧(dir=true→getA l "_succ" =some (.ref ad))
 pred:dir=true→∃pd,getA l "_pred" =some (.ref pd)∧TabB prog w B pd n (fun v u=>E u v)
 sym:dir=false→∀u v,E u v=E v u
 free:∀x∈(["is_directed","is_multigraph","__contains__","__getitem__"]:List Str),l.lookup x=none
theorem GrB.le {B':PM} {dir net dn n E l} (G:GrB prog w B dir net dn n E l) (h:B.le B'):GrB prog w B' dir net dn n E l:=by
 obtain⟨⟨ox,h1,h2⟩,⟨nd,o,a1,a2,a3⟩,⟨ad,b1,b2,b3⟩,p,s,f⟩:=G
 refine⟨⟨ox,h _ _ h1,h2⟩,⟨nd,o,a1,h _ _ a2,a3⟩,⟨ad,b1,b2.le h,b3⟩,fun d=>?_,s,f⟩
 obtain⟨pd,c1,c2⟩:=p d
 exact⟨pd,c1,c2.le h⟩
structure GraphF (K:Frag) (B:PM):Prop where
 cls:∀d,Cls K (clsOf d)
 own:∀d,∀x∈(["_node","_adj","_succ","_pred","graph"]:List Str),OwnF K (clsOf d) x
 mCont:∀d,MethF K (clsOf d) "__contains__" 616
 mDir:∀d,MethF K (clsOf d) "is_directed" (if d then 946 else 745)
 fCont:FnAt B 616 (clsSt 35 9) "Graph.__contains__" .none .none
 fDirG:FnAt B 745 (clsSt 35 26) "Graph.is_directed" .none .none
 fDirD:FnAt B 946 (clsSt 37 18) "DiGraph.is_directed" .none .none
 lim:NoLim B
theorem GraphF.le {B':PM} (F:GraphF K B) (h:B.le B'):GraphF K B':=⟨F.cls,F.own,F.mCont,F.mDir,F.fCont.le h,F.fDirG.le h,F.fDirD.le h,F.lim.le h⟩
theorem Cd.tryOk {b o rest:List Stmt} {h0:ExceptHandler} {hs:List ExceptHandler} {P:Flow→Heap→Prop} (h1:Tr prog w A (execs (b++(o++rest)) env) h P noX):True:=trivial
theorem Tr.tryRet {b:List Stmt} {h0:ExceptHandler} {hs:List ExceptHandler} {P:Flow→Heap→Prop} (h1:Tr prog w A (execs b env) h (fun f h'=>∃v,f = .ret v∧P f h') noX):Tr prog w A (exec (.Try b (h0::hs) [] [] pos) env) h P X:=
 fun g d tk os Q E hg hq he=>wpAny_Try_except (h1 g d tk os _ _ hg (fun f h' g' tk' hg' ⟨v,e,p⟩=>by subst e;exact hq _ _ _ _ hg' p) (fun _ _ _ _ _ x=>x.elim))
noncomputable def sCont:Stmt:=clsSt 35 9
theorem okCont {L a:Addr} {cd:Value}:EnvOk (envF sCont "Graph.__contains__" L a cd) L ["self","n"]:= .of (by decide +kernel)
theorem gcont_ok {dir:Bool} {net dn:Addr} {n v:Nat} {t:Tok} {E l} (R:Room A 2 10) (hK:InK K B) (F:GraphF K B) (G:GrB prog w B dir net dn n E l) (S:St B ms h) {j:Nat} (hj:ms[j]?=some (dn,InsD l)):
  Tr prog w A (call (.ref 616) [.ref net,.int v t]) h (fun r h'=>r = .bool (decide (v<n))∧St B ms h') X:=by
 refine Tc.tr (Tc.callFn (d:=1) (u:=7) R F.fCont F.lim S (binds:=[("self",.ref net),("n",.int v t)]) (fun x s' _=>.of_eq rfl) ["self","n"] [.val (.ref net),.int v] (.cons rfl (.cons ⟨t,rfl⟩ .nil)) (fun x hx=>?_) fun L h1 cd A' R' S1=>?_)
 ·rcases List.mem_cons.mp hx with rfl | hx
  ·rfl
  ·rw [List.mem_singleton.mp hx];rfl
 obtain⟨ox,hox,c1,c2,c3,_⟩:=G.inst
 obtain⟨nd,o,a1,a2,a3,a4⟩:=G.node
 obtain⟨od,hod,hil⟩:=S1.mem (i:=j+1) (by rw [List.getElem?_cons_succ];exact hj)
 have I:=instAt (S1.keep _ _ hox) c1 c2 c3 hod
 have eN:∀pos p1,Ev prog w A' (envF sCont "Graph.__contains__" L 616 cd) h1 (.Attribute (.Name "self" p1) "_node" pos) (.val (.ref nd)):=fun pos p1=>.attr (.name okCont S1 0 rfl rfl) (.own (hK.in S1) (F.cls dir) (F.own dir _ (.head _)) I hil a1 rfl)
 refine Cd.cons (.tryRet (P:=fun f h'=>f = .ret (.bool (decide (v<n)))∧St B ms h') ?_) fun f h' hp=>.inr ⟨by rw [hp.1];nofun,by rw [hp.1];exact⟨rfl,hp.2⟩⟩
 refine Cd.retE (.cmp (.name okCont S1 1 rfl rfl) (eN _ _) (.inM (S1.keep _ _ a2) a4 a3)) fun v' hv=>?_
 have hv':v' = .bool _:=hv
 refine⟨_,rfl,?_,S1.drop0⟩
 rw [hv']
 by_cases q:v<n <;> simp [q]
end
end
section
noncomputable abbrev NM:=Nat→Option Nat
noncomputable def upd {α:Type} (f:Nat→Option α) (k:Nat) (v:α):Nat→Option α:=fun j=>if j=k then some v else f j
theorem upd_self {α:Type} {f:Nat→Option α} {k:Nat} {v:α}:upd f k v k=some v:=if_pos rfl
theorem upd_ne {α:Type} {f:Nat→Option α} {k j:Nat} {v:α} (h:j≠k):upd f k v j=f j:=if_neg h
noncomputable abbrev Ent:=Nat×Nat×Nat
noncomputable abbrev WRel:=Nat→Nat→Nat→Prop
inductive Walk (W:WRel):Nat→Nat→Nat→Prop where
 | nil {x}:Walk W x x 0
 | snoc {x y z c d}:Walk W x y c→W y z d→Walk W x z (c+d)
theorem Walk.cons {W:WRel} {x y z c d} (h:W x y d) (r:Walk W y z c):Walk W x z (d+c):=by
 induction r with
 | nil=>have:=Walk.snoc (.nil) h;rwa [Nat.zero_add] at this
 | snoc _ e ih=>have:=Walk.snoc ih e;rwa [Nat.add_assoc] at this
theorem Walk.rev {W:WRel} {x y c} (h:Walk W x y c):Walk (fun a b d=>W b a d) y x c:=by
 induction h with
 | nil=>exact .nil
 | snoc _ e ih=>rw [Nat.add_comm];exact .cons e ih
inductive Ch (s:Nat) (W:WRel) (D:NM) (Pm:Nat→Option (Option Nat)):Nat→List Nat→Nat→Prop where
 | base:Pm s=some none→Ch s W D Pm s [s] 0
 | step {u v b c p}:Pm v=some (some u)→D u=some b→W u v c→Ch s W D Pm u p b→Ch s W D Pm v (v::p) (b+c)
theorem Ch.mono {s W D Pm D' Pm' x p a} (h:Ch s W D Pm x p a) (hD:∀u b,D u=some b→D' u=some b) (hP:∀u b,D u=some b→Pm' u=Pm u) (hx:Pm' x=Pm x) (hs:Pm' s=Pm s):Ch s W D' Pm' x p a:=by
 induction h with
 | base e=>exact .base (hx.trans e)
 | step e d w _ ih=>exact .step (hx.trans e) (hD _ _ d) w (ih (hP _ _ d))
structure Side (n s:Nat) (W:WRel) (D S:NM) (Pm:Nat→Option (Option Nat)) (F:List Ent) (v:Nat) (R:Nat→Prop):Prop where
 ds:∀x a,D x=some a→S x=some a
 src:S s=some 0
 ent:∀e∈F,∃a,S e.2.2=some a∧a≤e.1
 has:∀x a,S x=some a→D x=none→∃c,(a,c,x)∈F
 low:∀x a,D x=some a→∀e∈F,a≤e.1
 lim:∀x a,S x=some a→x<n
 ch:∀x a,S x=some a→∃p,Ch s W D Pm x p a
 psrc:Pm s=some none
 rel:∀x a,D x=some a→∀w c,W x w c→(x=v→R w)→∃b,S w=some b∧b≤a+c
 pd:∀x,(Pm x).isSome=(S x).isSome
variable {n s:Nat} {W:WRel} {D S:NM} {Pm:Nat→Option (Option Nat)} {F F':List Ent} {v:Nat} {R:Nat→Prop}
theorem Side.perm (h:Side n s W D S Pm F v R) (hp:F'.Perm F):Side n s W D S Pm F' v R:=
 ⟨h.ds,h.src,fun e he=>h.ent e (hp.mem_iff.mp he),fun x a h1 h2=>(h.has x a h1 h2).imp fun c hc=>hp.mem_iff.mpr hc,fun x a hx e he=>h.low x a hx e (hp.mem_iff.mp he),h.lim,h.ch,h.psrc,h.rel,h.pd⟩
theorem Side.full (h:Side n s W D S Pm F v R) (hR:∀w c,W v w c→R w) (v':Nat):Side n s W D S Pm F v' (fun _=>True):=
 ⟨h.ds,h.src,h.ent,h.has,h.low,h.lim,h.ch,h.psrc,fun x a hx w c hw _=>h.rel x a hx w c hw fun e=>hR w c (e▸hw),h.pd⟩
theorem Side.skip {k c x:Nat} {v0:Nat} (h:Side n s W D S Pm ((k,c,x)::F) v0 R) (hx:(D x).isSome=true):Side n s W D S Pm F v0 R:=by
 refine⟨h.ds,h.src,fun e he=>h.ent e (.tail _ he),fun y a h1 h2=>?_,fun y a hy e he=>h.low y a hy e (.tail _ he),h.lim,h.ch,h.psrc,h.rel,h.pd⟩
 obtain⟨c',hc⟩:=h.has y a h1 h2
 rcases List.mem_cons.mp hc with q | q
 ·obtain⟨rfl,q01⟩:=Prod.mk.inj q;obtain⟨rfl,rfl⟩:=Prod.mk.inj q01;rw [h2] at hx;contradiction
 ·exact⟨c',q⟩
theorem Side.pop {k c x v0:Nat} (h:Side n s W D S Pm ((k,c,x)::F) v0 (fun _=>True)) (hx:D x=none) (hl:∀e∈F,k≤e.1):S x=some k∧Side n s W (upd D x k) S Pm F x (fun _=>False):=by
 obtain⟨a,ha,hak⟩:=h.ent _ (.head _)
 dsimp only at ha hak
 have hk:a=k:=by
  obtain⟨c',hc⟩:=h.has x a ha hx
  rcases List.mem_cons.mp hc with q | q
  ·obtain⟨rfl,q01⟩:=Prod.mk.inj q;obtain⟨rfl,_⟩:=Prod.mk.inj q01;rfl
  ·have:=hl _ q;dsimp only at this;exact nt189 hak this
 subst hk
 refine⟨ha,⟨fun y b hy=>?_,h.src,fun e he=>h.ent e (.tail _ he),fun y b h1 h2=>?_,fun y b hy e he=>?_,h.lim,fun y b hy=>?_,h.psrc,fun y b hy w c hw hr=>?_,h.pd⟩⟩
 ·by_cases q:y=x
  ·subst q;rw [upd_self] at hy;obtain rfl:=Option.some.inj hy;exact ha
  ·rw [upd_ne q] at hy;exact h.ds y b hy
 ·by_cases q:y=x
  ·subst q;rw [upd_self] at h2;contradiction
  ·rw [upd_ne q] at h2
   obtain⟨c',hc⟩:=h.has y b h1 h2
   rcases List.mem_cons.mp hc with q' | q'
   ·obtain⟨rfl,q'01⟩:=Prod.mk.inj q';obtain⟨rfl,rfl⟩:=Prod.mk.inj q'01;exact absurd rfl q
   ·exact⟨c',q'⟩
 ·by_cases q:y=x
  ·subst q;rw [upd_self] at hy;obtain rfl:=Option.some.inj hy;exact hl e he
  ·rw [upd_ne q] at hy;exact h.low y b hy e (.tail _ he)
 ·obtain⟨p,hp⟩:=h.ch y b hy
  exact⟨p,hp.mono (fun u b hu=>by
   by_cases q:u=x
   ·subst q;rw [hx] at hu;contradiction
   ·rw [upd_ne q];exact hu) (fun _ _ _=>rfl) rfl rfl⟩
 ·by_cases q:y=x
  ·exact(hr q).elim
  ·rw [upd_ne q] at hy;exact h.rel y b hy w c hw fun _=>trivial
theorem Side.pass {w k:Nat} (h:Side n s W D S Pm F v R) (hv:D v=some k) (hw:∀c,W v w c→∃b,S w=some b∧b≤k+c):Side n s W D S Pm F v (fun y=>R y∨y=w):=by
 refine⟨h.ds,h.src,h.ent,h.has,h.low,h.lim,h.ch,h.psrc,fun x a hx y c hy hr=>?_,h.pd⟩
 by_cases q:x=v
 ·rcases hr q with r | rfl
  ·exact h.rel x a hx y c hy fun _=>r
  ·subst q;rw [hv] at hx;obtain rfl:=Option.some.inj hx;exact hw c hy
 ·exact h.rel x a hx y c hy fun e=>absurd e q
theorem Side.push {w k c m:Nat} (h:Side n s W D S Pm F v R) (hv:D v=some k) (hw:W v w c) (hu:∀c',W v w c'→c'=c) (hd:D w=none) (hn:w<n) (hws:w≠s) (hlt:∀b,S w=some b→k+c<b) (hlow:∀x a,D x=some a→a≤k):
  Side n s W D (upd S w (k+c)) (upd Pm w (some v)) ((k+c,m,w)::F) v (fun y=>R y∨y=w):=by
 have hne:∀{u b},D u=some b→u≠w:=fun {u b} hu' e=>by rw [e,hd] at hu';contradiction
 refine⟨fun x a hx=>by rw [upd_ne (hne hx)];exact h.ds x a hx,by rw [upd_ne (Ne.symm hws)];exact h.src,fun e he=>?_,fun x a h1 h2=>?_,fun x a hx e he=>?_,fun x a hx=>?_,fun x a hx=>?_,by rw [upd_ne (Ne.symm hws)];exact h.psrc,fun x a hx y c' hy hr=>?_,fun x=>?_⟩
 ·rcases List.mem_cons.mp he with rfl | he
  ·exact⟨_,upd_self,Nat.le_refl _⟩
  ·obtain⟨a,ha,hle⟩:=h.ent e he
   by_cases q:e.2.2=w
   ·rw [q] at ha ⊢
    exact⟨_,upd_self,Nat.le_trans (Nat.le_of_lt (hlt a ha)) hle⟩
   ·exact⟨a,by rw [upd_ne q];exact ha,hle⟩
 ·by_cases q:x=w
  ·subst q;rw [upd_self] at h1;obtain rfl:=Option.some.inj h1;exact⟨m,.head _⟩
  ·rw [upd_ne q] at h1
   obtain⟨c',hc⟩:=h.has x a h1 h2
   exact⟨c',.tail _ hc⟩
 ·rcases List.mem_cons.mp he with rfl | he
  ·exact Nat.le_trans (hlow x a hx) (Nat.le_add_right ..)
  ·exact h.low x a hx e he
 ·by_cases q:x=w
  ·rw [q];exact hn
  ·rw [upd_ne q] at hx;exact h.lim x a hx
 ·have old:∀x b,S x=some b→x≠w→∃p,Ch s W D (upd Pm w (some v)) x p b:=fun x b hx q=>by
   obtain⟨p,hp⟩:=h.ch x b hx
   exact⟨p,hp.mono (fun _ _ z=>z) (fun u b hu=>upd_ne (hne hu)) (upd_ne q) (upd_ne (Ne.symm hws))⟩
  by_cases q:x=w
  ·subst q
   rw [upd_self] at hx;obtain rfl:=Option.some.inj hx
   obtain⟨p,hp⟩:=old v k (h.ds v k hv) (hne hv)
   exact⟨_,.step upd_self hv hw hp⟩
  ·rw [upd_ne q] at hx;exact old x a hx q
 ·have weaken:∀y b a',S y=some b→b≤a'→(y=w→k+c≤a')→∃b',upd S w (k+c) y=some b'∧b'≤a':=fun y b a' hb hle hy=>by
   by_cases q:y=w
   ·subst q;exact⟨_,upd_self,hy rfl⟩
   ·exact⟨b,by rw [upd_ne q];exact hb,hle⟩
  have fromOld:(∃b,S y=some b∧b≤a+c')→∃b,upd S w (k+c) y=some b∧b≤a+c':=fun⟨b,hb,hle⟩=>
   weaken y b _ hb hle fun e=>by subst e;have:=hlt b hb;lia
  by_cases q:x=v
  ·rcases hr q with r | rfl
   ·exact fromOld (h.rel x a hx y c' hy fun _=>r)
   ·subst q;rw [hv] at hx;obtain rfl:=Option.some.inj hx
    rw [hu c' hy]
    exact⟨_,upd_self,Nat.le_refl _⟩
  ·exact fromOld (h.rel x a hx y c' hy fun e=>absurd e q)
 ·by_cases q:x=w
  ·subst q;rw [upd_self,upd_self];rfl
  ·rw [upd_ne q,upd_ne q];exact h.pd x
theorem Side.claim {κ:Nat} (h:Side n s W D S Pm F v R) (hF:∀e∈F,κ≤e.1) (hR:D v=some κ∨∀w,R w) {x c:Nat} (hw:Walk W s x c):(∃a,D x=some a∧a≤c)∨κ≤c:=by
 have fin:∀x b c,S x=some b→b≤c→(∃a,D x=some a∧a≤c)∨κ≤c:=fun x b c hb hle=>by
  cases q:D x with
  | some a=>
   have:=h.ds x a q
   rw [hb] at this;obtain rfl:=Option.some.inj this
   exact .inl ⟨b,rfl,hle⟩
  | none=>
   obtain⟨c',hc⟩:=h.has x b hb q
   have:=hF _ hc
   exact .inr (Nat.le_trans this hle)
 induction hw with
 | nil=>exact fin _ 0 0 h.src (Nat.le_refl _)
 | @snoc x y c d _ e ih=>
  rcases ih with⟨a,ha,hle⟩ | hk
  ·by_cases q:x=v∧¬∀w,R w
   ·obtain⟨q1,q2⟩:=q
    rcases hR with hv | hR
    ·subst q1;rw [ha] at hv;obtain rfl:=Option.some.inj hv
     exact .inr (nt276 hle)
    ·exact absurd hR q2
   ·obtain⟨b,hb,hbl⟩:=h.rel x a ha y d e fun e1=>by
     have:¬¬∀w,R w:=fun z=>q ⟨e1,z⟩
     exact Classical.not_not.mp this y
    exact fin y b _ hb (nt323 hle hbl)
  ·exact .inr (nt276 hk)
structure Meet (S0 S1:NM) (fd mt:Option Nat):Prop where
 at_:∀d,fd=some d→∃m a b,mt=some m∧S0 m=some a∧S1 m=some b∧d=a+b
 least:∀x a b,S0 x=some a→S1 x=some b→∃d,fd=some d∧d≤a+b
theorem Meet.swap {S0 S1 fd mt} (h:Meet S0 S1 fd mt):Meet S1 S0 fd mt:=
 ⟨fun d e=>let ⟨m,a,b,h1,h2,h3,h4⟩:=h.at_ d e;⟨m,b,a,h1,h3,h2,by exact nt242 h4⟩,fun x a b h1 h2=>let ⟨d,e,hd⟩:=h.least x b a h2 h1;⟨d,e,by exact nt274 hd⟩⟩
theorem Meet.pushNo {S0 S1 fd mt} {w l:Nat} (h:Meet S0 S1 fd mt) (hn:S1 w=none):Meet (upd S0 w l) S1 fd mt:=by
 refine⟨fun d e=>?_,fun x a b h1 h2=>?_⟩
 ·obtain⟨m,a,b,h1,h2,h3,h4⟩:=h.at_ d e
  have:m≠w:=fun q=>by subst q;rw [hn] at h3;contradiction
  exact⟨m,a,b,h1,by rw [upd_ne this];exact h2,h3,h4⟩
 ·have:x≠w:=fun q=>by subst q;rw [hn] at h2;contradiction
  rw [upd_ne this] at h1
  exact h.least x a b h1 h2
theorem Meet.pushYes {S0 S1 fd mt} {w l b:Nat} (h:Meet S0 S1 fd mt) (hb:S1 w=some b) (hlt:∀a,S0 w=some a→l<a):
  if(fd=none∨∃d,fd=some d∧d>l+b)then Meet (upd S0 w l) S1 (some (l+b)) (some w)else Meet (upd S0 w l) S1 fd mt:=by
 split
 ·rename_i hc
  refine⟨fun d e=>by obtain rfl:=Option.some.inj e;exact⟨w,l,b,rfl,upd_self,hb,rfl⟩,fun x a b' h1 h2=>⟨_,rfl,?_⟩⟩
  by_cases q:x=w
  ·subst q;rw [upd_self] at h1;obtain rfl:=Option.some.inj h1;rw [hb] at h2;obtain rfl:=Option.some.inj h2;exact Nat.le_refl _
  ·rw [upd_ne q] at h1
   obtain⟨d,e,hd⟩:=h.least x a b' h1 h2
   rcases hc with hc | ⟨d',e',hd'⟩
   ·rw [hc] at e;contradiction
   ·rw [e] at e';obtain rfl:=Option.some.inj e';exact nt344 hd hd'
 ·rename_i hc
  obtain⟨d0,hd0⟩:∃d,fd=some d:=by
   cases q:fd with
   | none=>exact absurd (.inl q) hc
   | some d=>exact⟨d,rfl⟩
  have hle:d0≤l+b:=by
   rcases Nat.lt_or_ge (l+b) d0 with q | q
   ·exact absurd (.inr ⟨d0,hd0,q⟩) hc
   ·exact q
  refine⟨fun d e=>?_,fun x a b' h1 h2=>?_⟩
  ·obtain⟨m,a,b',h1,h2,h3,h4⟩:=h.at_ d e
   have:m≠w:=fun q=>by
    subst q
    rw [hb] at h3;obtain rfl:=Option.some.inj h3
    have:=hlt a h2
    rw [hd0] at e;obtain rfl:=Option.some.inj e;exact nt316 hle this h4
   exact⟨m,a,b',h1,by rw [upd_ne this];exact h2,h3,h4⟩
  ·by_cases q:x=w
   ·subst q;rw [upd_self] at h1;obtain rfl:=Option.some.inj h1;rw [hb] at h2;obtain rfl:=Option.some.inj h2;exact⟨d0,hd0,hle⟩
   ·rw [upd_ne q] at h1;exact h.least x a b' h1 h2
theorem meet_best {n s t v a b:Nat} {W:WRel} {D0 S0 D1 S1:NM} {P0 P1 F0 F1 u1 fd mt d δ} {R1:Nat→Prop} (h0:Side n s W D0 S0 P0 F0 v (fun _=>False)) (h1:Side n t (fun x y c=>W y x c) D1 S1 P1 F1 u1 R1) (hR:∀w,R1 w)
  (hM:Meet S0 S1 fd mt) (hd:fd=some d) (hv0:D0 v=some a) (hF0:∀e∈F0,a≤e.1) (hv1:D1 v=some b) (hw:Walk W s t δ):d≤δ:=by
 have hF1:∀e∈F1,b≤e.1:=h1.low v b hv1
 have best:∀x a b,S0 x=some a→S1 x=some b→d≤a+b:=fun x a b e0 e1=>by
  obtain⟨d',e,hle⟩:=hM.least x a b e0 e1
  rw [hd] at e;obtain rfl:=Option.some.inj e;exact hle
 have hab:d≤a+b:=best v a b (h0.ds v a hv0) (h1.ds v b hv1)
 have c0:∀{x c},Walk W s x c→(∃a',D0 x=some a'∧a'≤c)∨a≤c:=fun hw=>h0.claim hF0 (.inl hv0) hw
 have c1:∀{x c},Walk W x t c→(∃a',D1 x=some a'∧a'≤c)∨b≤c:=fun hw=>h1.claim hF1 (.inr hR) hw.rev
 have main:∀{x c},Walk W s x c→∀r,Walk W x t r→d≤c+r∨c<a:=by
  intro x c hw
  induction hw with
  | nil=>
   intro r hr
   by_cases q:0<a
   ·exact .inr q
   ·refine .inl ?_
    rcases c1 hr with⟨b',hb',hle⟩ | hle
    ·have:=best _ 0 b' h0.src (h1.ds _ _ hb');exact nt279 hle this
    ·exact nt318 hab q hle
  | @snoc x y c w hxy e ih=>
   intro r hr
   by_cases q:c+w<a
   ·exact .inr q
   ·refine .inl ?_
    rcases ih (w+r) (.cons e hr)with hh | hca
    ·exact nt315 hh
    ·rcases c1 hr with⟨b',hb',hle⟩ | hle
     ·rcases c0 hxy with⟨a',ha',hla⟩ | hla
      ·obtain⟨s',hs',hls⟩:=h0.rel x a' ha' y w e fun q'=>by
        subst q';rw [hv0] at ha';obtain rfl:=Option.some.inj ha';exact nt151 hca hla
       have:=best y s' b' hs' (h1.ds _ _ hb')
       exact nt358 hle hla hls this
      ·exact nt331 hca hla
     ·exact nt356 hab q hle
 rcases main hw 0 .nil with h | h
 ·exact nt181 h
 ·rcases c0 hw with⟨a',ha',hle⟩ | hle
  ·have:=best t a' 0 (h0.ds _ _ ha') h1.src;exact nt280 hle this
  ·exact nt231 h hle
theorem Ch.walk {s W D Pm x p a} (h:Ch s W D Pm x p a):Walk W s x a:=by
 induction h with
 | base=>exact .nil
 | step _ _ w _ ih=>exact .snoc ih w
theorem Side.none (h:Side n s W D S Pm [] v R) (hR:∀w,R w) {x c:Nat} (hw:Walk W s x c):(D x).isSome=true:=by
 rcases h.claim (κ:=c+1) (fun e he=>absurd he List.not_mem_nil) (.inr hR) hw with⟨a,ha,_⟩ | h
 ·rw [ha];rfl
 ·exact(nt52 h).elim
end
section
open PySem PySem.W PyProof.Rows
variable [GenI]
structure QK (α:Type) where
 k:α→Nat
 c:α→Nat
 rel:α→List Value→Prop
inductive EntB {α:Type} (q:QK α) (B:PM) (v:Value) (e:α):Prop
 | mk (t o tk tc r) (f1:v = .ref t) (f2:B t=some o) (f3:TupO (.int (q.k e:Nat) tk:: .int (q.c e:Nat) tc::r) o) (f4:q.rel e r):EntB q B v e
theorem EntB.le {α:Type} {q:QK α} {B B':PM} {v e} (h:EntB q B v e) (hb:B.le B'):EntB q B' v e:=by
 obtain⟨t,o,tk,tc,r,h1,h2,h3,h4⟩:=h
 exact⟨t,o,tk,tc,r,h1,hb _ _ h2,h3,h4⟩
open Classical in
noncomputable def keyOf (B:PM) (v:Value):Int×Int:=
 if h:∃(p:Int×Int) (t:Addr) (o:Obj) (tk tc:Tok) (r:List Value),v = .ref t∧B t=some o∧TupO (.int p.1 tk:: .int p.2 tc::r) o then h.choose else(0,0)
theorem TupO.inj {xs ys:List Value} {o:Obj} (h1:TupO xs o) (h2:TupO ys o):xs=ys:=by
 obtain⟨_,n,e⟩:=h1
 obtain⟨_,m,e'⟩:=h2
 rw [e] at e'
 obtain⟨e'00,rfl⟩:=Data.seq.inj e';obtain rfl:=Array.mk.inj e'00
 rfl
theorem keyOf_eq {B:PM} {t:Addr} {o:Obj} {k c:Int} {tk tc:Tok} {r:List Value} (hB:B t=some o) (ht:TupO (.int k tk:: .int c tc::r) o):keyOf B (.ref t)=(k,c):=by
 have h:∃(p:Int×Int) (t':Addr) (o:Obj) (tk tc:Tok) (r:List Value),Value.ref t = .ref t'∧B t'=some o∧TupO (.int p.1 tk:: .int p.2 tc::r) o:=⟨(k,c),t,o,tk,tc,r,rfl,hB,ht⟩
 unfold keyOf
 rw [dif_pos h]
 obtain⟨t',o',tk',tc',r',e1,e2,e3⟩:=h.choose_spec
 obtain rfl:=Value.ref.inj e1
 rw [hB] at e2;obtain rfl:=Option.some.inj e2
 have:=TupO.inj ht e3
 simp only [List.cons.injEq,Value.int.injEq] at this
 exact Prod.ext this.1.1.symm this.2.1.1.symm
theorem EntB.key {α:Type} {q:QK α} {B:PM} {v e} (h:EntB q B v e):keyOf B v=(((q.k e:Nat):Int),((q.c e:Nat):Int)):=by
 obtain⟨t,o,tk,tc,r,rfl,h2,h3,_⟩:=h
 exact keyOf_eq h2 h3
inductive QL {α:Type} (q:QK α) (B:PM):List Value→List α→Prop where
 | nil:QL q B [] []
 | cons {v e vs es}:EntB q B v e→QL q B vs es→QL q B (v::vs) (e::es)
theorem QL.perm {α:Type} {q:QK α} {B:PM} {xs ys:List Value} {F:List α} (h:QL q B xs F) (hp:xs.Perm ys):∃F',F.Perm F'∧QL q B ys F':=by
 induction hp generalizing F with
 | nil=>cases h;exact⟨[],.nil,.nil⟩
 | cons x _ ih=>
  cases h with
  | cons e h=>obtain⟨F',p,h'⟩:=ih h;exact⟨_,p.cons _,.cons e h'⟩
 | swap x y l=>
  cases h with
  | cons e h=>cases h with
   | cons e' h=>exact⟨_,.swap ..,.cons e' (.cons e h)⟩
 | trans _ _ ih1 ih2=>
  obtain⟨F1,p1,h1⟩:=ih1 h
  obtain⟨F2,p2,h2⟩:=ih2 h1
  exact⟨F2,p1.trans p2,h2⟩
theorem QL.le {α:Type} {q:QK α} {B B':PM} {xs F} (h:QL q B xs F) (hb:B.le B'):QL q B' xs F:=by
 induction h with
 | nil=>exact .nil
 | cons e _ ih=>exact .cons (e.le hb) ih
theorem QL.keys {α:Type} {q:QK α} {B:PM} {xs F} (h:QL q B xs F):xs.map (keyOf B)=F.map fun e=>(((q.k e:Nat):Int),((q.c e:Nat):Int)):=by
 induction h with
 | nil=>rfl
 | cons e _ ih=>rw [List.map_cons,List.map_cons,ih,e.key]
theorem QL.length {α:Type} {q:QK α} {B:PM} {xs F} (h:QL q B xs F):xs.length=F.length:=by
 induction h with
 | nil=>rfl
 | cons e _ ih=>rw [List.length_cons,List.length_cons,ih]
theorem QL.mem {α:Type} {q:QK α} {B:PM} {xs F} (h:QL q B xs F):∀v∈xs,∃e∈F,EntB q B v e:=by
 induction h with
 | nil=>intro v hv;exact absurd hv List.not_mem_nil
 | cons e _ ih=>
  intro v hv
  rcases List.mem_cons.mp hv with rfl | hv
  ·exact⟨_,.head _,e⟩
  ·obtain⟨e',he',r⟩:=ih v hv;exact⟨e',.tail _ he',r⟩
theorem IsHeap.congr {key key':Value→Int×Int} {xs:Array Value} (h:IsHeap key xs) (hk:∀v∈xs.toList,key v=key' v):IsHeap key' xs:=by
 intro i hi x y hx hy
 have m:∀{j:Nat} {z},xs[j]?=some z→z∈xs.toList:=fun {j z} e=>List.mem_of_getElem? (i:=j) (by rw [Array.getElem?_toList];exact e)
 have:=h i hi x y hx hy
 unfold klt at this ⊢
 rw [←hk x (m hx),←hk y (m hy)]
 exact this
structure QuB {α:Type} (q:QK α) (B:PM) (xs:Array Value) (F:List α):Prop where
 ql:QL q B xs.toList F
 heap:IsHeap (keyOf B) xs
 nd:(F.map q.c).Nodup
theorem QuB.le {α:Type} {q:QK α} {B B':PM} {xs F} (h:QuB q B xs F) (hb:B.le B'):QuB q B' xs F:=
 ⟨h.ql.le hb,h.heap.congr fun v hv=>by obtain⟨e,_,he⟩:=h.ql.mem v hv;rw [he.key,(he.le hb).key],h.nd⟩
theorem QuB.size {α:Type} {q:QK α} {B:PM} {xs F} (h:QuB q B xs F):xs.size=F.length:=by rw [←h.ql.length];simp
theorem QuB.nil {α:Type} {q:QK α} {B:PM}:QuB q B #[] []:=⟨.nil,fun i hi x y hx=>by simp at hx,.nil⟩
section
variable {prog:Program} {w:World} {A:Around} {h:Heap} {X:Value→Heap→Prop} {B:PM} {ms:List (Addr×OP)} {α:Type} {q:QK α}
theorem EntB.good (S:St B ms h) {v e} (he:EntB q B v e):Good h (keyOf B) v:=by
 have hk:=he.key
 obtain⟨t,o,tk,tc,r,rfl,h2,h3,_⟩:=he
 exact⟨t,o,_,_,tk,tc,r,rfl,S.keep _ _ h2,h3,hk⟩
theorem QuB.apart {xs F} (h:QuB q B xs F):Apart (keyOf B) xs.toList:=by
 unfold Apart
 have e:(xs.toList.map fun v=>(keyOf B v).2)=(F.map q.c).map fun n:Nat=>(n:Int):=by
  rw [show(xs.toList.map fun v=>(keyOf B v).2)=(xs.toList.map (keyOf B)).map (·.2)from by rw [List.map_map];rfl,h.ql.keys,List.map_map,List.map_map];rfl
 rw [e]
 exact List.Pairwise.map _ (fun a b hab e=>hab (nt109 e)) h.nd
theorem QuB.hq (S:St B ms h) {xs F} {a:Addr} (hl:h.IsList a xs) (hQ:QuB q B xs F) (hz:F.length≤5000):HQ (keyOf B) h a xs:=
 ⟨hl,fun v hv=>by obtain⟨e,_,he⟩:=hQ.ql.mem v hv;exact he.good S,hQ.apart,by rw [hQ.size,sizeLine_eq];exact nt87 hz⟩
theorem perm_cons_of {F1 F:List α} {e:α} (h:F1.Perm (e::F)):F1.Perm (e::F):=h
theorem Tr.heappush {a:Addr} {item:Value} {e:α} {xs F} {j:Nat} {P:Value→Heap→Prop} (R:Room A 0 3) (S:St B ms h) (hj:ms[j]?=some (a,ListO xs)) (hQ:QuB q B xs F) (he:EntB q B item e) (hc:q.c e∉F.map q.c) (hz:F.length≤4000)
  (k:∀ys F' h',St B (ms.set j (a,ListO ys)) h'→QuB q B ys F'→F'.Perm (e::F)→P .none h'):Tr prog w A (call (.builtin "_heapq.heappush") [.ref a,item]) h P X:=by
 intro g d tk os Q E hg hq hE
 have hl:h.IsList a xs:=S.mem hj
 have hcons:QL q B (item::xs.toList) (e::F):= .cons he hQ.ql
 have hap:Apart (keyOf B) (item::xs.toList):=by
  unfold Apart
  rw [List.map_cons]
  refine List.nodup_cons.mpr ⟨fun hm=>?_,hQ.apart⟩
  obtain⟨v,hv,e1⟩:=List.mem_map.mp hm
  obtain⟨e',he',r⟩:=hQ.ql.mem v hv
  rw [r.key,he.key] at e1
  have:q.c e'=q.c e:=by have:=e1;dsimp only at this;lia
  exact hc (this▸List.mem_map_of_mem he')
 refine wpAny_heappush (s:=⟨h,g,d,tk,os⟩) (by have:=R.un;exact nt122 this) (hQ.hq S hl (nt85 hz)) hQ.heap (he.good S) hap (by rw [hQ.size,sizeLine_eq];exact nt84 hz) fun h' ys H' hh' hp hs=>?_
 obtain⟨F',p,q'⟩:=hcons.perm hp.symm
 obtain⟨o',ho',hl'⟩:=H'.list
 exact hq _ h' g tk hg (k ys F' h' (S.upd hj hs ho' hl') ⟨q',hh',((p.symm.map q.c).nodup_iff).mpr (by rw [List.map_cons];exact List.nodup_cons.mpr ⟨hc,hQ.nd⟩)⟩ p.symm)
theorem Tr.heappop {a:Addr} {xs F} {j:Nat} {P:Value→Heap→Prop} (R:Room A 0 3) (S:St B ms h) (hj:ms[j]?=some (a,ListO xs)) (hQ:QuB q B xs F) (hne:F≠[]) (hz:F.length≤4000)
  (k:∀v e ys F' h',EntB q B v e→St B (ms.set j (a,ListO ys)) h'→QuB q B ys F'→F.Perm (e::F')→(∀e'∈F',q.k e≤q.k e')→P v h'):Tr prog w A (call (.builtin "_heapq.heappop") [.ref a]) h P X:=by
 intro g d tk os Q E hg hq hE
 have hl:h.IsList a xs:=S.mem hj
 refine wpAny_heappop (s:=⟨h,g,d,tk,os⟩) (by have:=R.un;exact nt122 this) (hQ.hq S hl (nt85 hz)) hQ.heap (by rw [hQ.size];exact List.length_pos_iff.mpr hne) fun h' ys v H' hh' hp hle gv hs=>?_
 obtain⟨F1,p,q'⟩:=hQ.ql.perm hp.symm
 cases q' with
 | cons he q'=>
  rename_i e F'
  obtain⟨o',ho',hl'⟩:=H'.list
  have hnd:=((p.map q.c).nodup_iff).mp hQ.nd
  rw [List.map_cons] at hnd
  refine hq _ h' g tk hg (k v e ys F' h' he (S.upd hj hs ho' hl') ⟨q',hh',(List.nodup_cons.mp hnd).2⟩ p fun e' he'=>?_)
  obtain⟨u,hu,ue⟩:∃u∈ys.toList,EntB q B u e':=by
   clear hle hp H' hh' hl' ho' p hnd
   generalize ys.toList=l at q'
   induction q' with
   | nil=>exact absurd he' List.not_mem_nil
   | cons e1 _ ih=>
    rcases List.mem_cons.mp he' with rfl | he'
    ·exact⟨_,.head _,e1⟩
    ·obtain⟨u,hu,r⟩:=ih he';exact⟨u,.tail _ hu,r⟩
  have:=hle u hu
  unfold klt at this
  rw [ue.key,he.key] at this
  rcases Nat.lt_or_ge (q.k e') (q.k e)with z | z
  ·exact absurd this (by simp;exact nt288 this z)
  ·exact z
end
end
section
set_option tactic.hygienic false
open PySem PySem.W PyProof.Rows
variable [GenI]
section
variable {prog:Program} {w:World} {A:Around} {env:Env} {h:Heap} {X:Value→Heap→Prop} {B:PM} {ms:List (Addr×OP)} {L:Addr} {nms:List Str} {avs:List AV} {pos:Pos} {K:Frag}
theorem Tr.dict1 {ke ve:PySem.Expr} {k n:Nat} {av:AV} {P:Value→Heap→Prop} (S:St B ms h) (hk:k<n) (h1:∀h1,St B ms h1→Ev prog w A env h1 ke (.int k)) (h2:∀h1,St B ms h1→Ev prog w A env h1 ve av)
  (kk:∀a h',St B ((a,MapO prog w n (upd (fun _=>none) k av))::ms) h'→P (.ref a) h'):Tr prog w A (eval (.Dict [some ke] [ve] pos) env) h P X:=by
 intro g d tk os Q E hg hq he
 refine wpAny_Dict_pairs (knd:=intKind prog w) (pairs:=[(eval ke env,do let x ←eval ve env;standAt pos;Pure.pure x)]) rfl (by exact List.cons_ne_nil _ _) (by exact Nat.le_of_ble_eq_true rfl) ?_
 have S1:=S.pushX { cls:= .type "dict",data:= .dict #[]}
 show wpAny _ _ (do
  let kv ←eval ke env
  let vv ←holding [kv] (do let x ←eval ve env;standAt pos;Pure.pure x)
  return (kv,vv)::(←holding [kv,vv] (evalPairs []))) _ _ _
 refine wpAny_bind (h1 _ S1 g d tk os _ E fun kv tk1 hkv=>?_)
 refine wpAny_bind (wpAny_holding (wpAny_bind (h2 _ S1 g d tk1 os _ E fun vv tk2 hvv=>wpAny_bind (wpAny_standAt (wpAny_pure ?_)))))
 refine wpAny_bind (wpAny_holding (wpAny_pure (wpAny_pure ?_)))
 obtain⟨t,rfl⟩:=hkv
 refine⟨[((k:Int),vv)],⟨intKind_is _ _ _ _,rfl,trivial⟩,Heap.DictOf.new h,fun h' hd hs=>hq _ _ _ _ hg (kk _ _ ?_)⟩
 obtain⟨o,ho,hd'⟩:=dictO_iff.mp hd
 have S2:St B ((h.objs.size,fun _=>True)::ms) (h.push { cls:= .type "dict",data:= .dict #[]}):=S.pushM trivial
 have e:merged [] [((k:Int),vv)] =stored [] (k:Int) vv:=rfl
 rw [e] at hd'
 exact S2.upd (i:=0) rfl hs ho (MapO.stored (f:=fun _=>none) hk hvv hd' (fun p hp=>absurd hp List.not_mem_nil) fun _=>rfl)
theorem Tr.containsOwn {x C f:Addr} {v:Value} {ox:Obj} {od:Option Obj} {P:Bool→Heap→Prop} (hX:K.In h) (I:InstAt h x ox C od) (hM:MethF K C "__contains__" f) (h1:Tr prog w A (call (.ref f) [.ref x,v]) h (fun r h'=>∃b,r = .bool b∧P b h') X):
  Tr prog w A (contains (.ref x) v) h P X:=by
 intro g d tk os Q E hg hq he
 unfold contains
 refine wpAny_holding (wpAny_bind (wpAny_bind (I.type.at ((looks_findIn hX hM.find).at ?_))))
 rw [if_neg (by simp)]
 refine wpAny_bind (unlessNone_K (s:=⟨h,g,d,tk,os⟩) hX I hM.find (beq_iff_eq.mpr hM.fn) (h1 g d tk os _ E hg (fun r h2 g2 tk2 hg2 zq0=>?_) he))
 obtain⟨b,e,p⟩:=zq0
 subst e
 exact wpAny_truthy_bool (hq _ _ _ _ hg2 p)
theorem Tr.testCmp {l r:PySem.Expr} {op:CmpOp} {a b:AV} {whole:Sem Value} {P:Bool→Heap→Prop} (hl:Ev prog w A env h l a) (hr:Ev prog w A env h r b) (ho:∀va vb,a.ok va→b.ok vb→Tr prog w A (compareOp op va vb) h (fun v h'=>∃c,v = .bool c∧P c h') X)
  (hm:behindInMarks op r=false:=by with_unfolding_all rfl):Tr prog w A (isTrue (.Compare l [op] [r] pos) env whole) h P X:=
 fun g d tk os Q E hg hq he=>wpAny_isTrue_Compare1 (hl g d tk os _ E fun va tk1 hva=>hr g d tk1 os _ E fun vb tk2 hvb=>ho va vb hva hvb g d tk2 os _ E hg (fun v h2 g2 tk2 hg2 ⟨c,e,p⟩=>by subst e;exact wpAny_truthy_bool (hq _ _ _ _ hg2 p)) he) hm
theorem Tr.notIn {x v:Value} {P:Value→Heap→Prop} (h1:Tr prog w A (contains x v) h (fun b h'=>P (.bool (!b)) h') X):Tr prog w A (compareOp .NotIn v x) h P X:=
 fun g d tk os Q E hg hq he=>wpAny_bind (h1 g d tk os _ E hg (fun b h2 g2 tk2 hg2 p=>wpAny_pure (hq _ _ _ _ hg2 p)) he)
theorem gdir_ok {dir:Bool} {net:Addr} (R:Room A 2 10) (F:GraphF K B) (S:St B ms h):
  Tr prog w A (call (.ref (if dir then 946 else 745)) [.ref net]) h (fun r h'=>r = .bool dir∧St B ms h') X:=by
 cases dir with
 | true=>
  refine Tc.tr (Tc.callFn (d:=1) (u:=7) R F.fDirD F.lim S (binds:=[("self",.ref net)]) (fun x s' _=>.of_eq rfl) ["self"] [.val (.ref net)] (.cons rfl .nil) (fun x hx=>by rw [List.mem_singleton.mp hx];rfl) fun L h1 cd A' R' S1=>?_)
  exact Cd.retE .cBool fun v hv=>⟨hv,S1.drop0⟩
 | false=>
  refine Tc.tr (Tc.callFn (d:=1) (u:=7) R F.fDirG F.lim S (binds:=[("self",.ref net)]) (fun x s' _=>.of_eq rfl) ["self"] [.val (.ref net)] (.cons rfl .nil) (fun x hx=>by rw [List.mem_singleton.mp hx];rfl) fun L h1 cd A' R' S1=>?_)
  exact Cd.retE .cBool fun v hv=>⟨hv,S1.drop0⟩
theorem Tr.inNet {dir:Bool} {net dn:Addr} {n v:Nat} {E l} {e:PySem.Expr} {ne:PySem.Expr} {whole:Sem Value} {P:Bool→Heap→Prop} (R:Room A 2 10) (hK:InK K B) (F:GraphF K B) (G:GrB prog w B dir net dn n E l) (S:St B ms h) {j:Nat} (hj:ms[j]?=some (dn,InsD l))
  (he:Ev prog w A env h e (.int v)) (hne:Ev prog w A env h ne (.val (.ref net))) (k:∀h',St B ms h'→P (!decide (v<n)) h') (hm:behindInMarks .NotIn ne=false:=by with_unfolding_all rfl):Tr prog w A (isTrue (.Compare e [.NotIn] [ne] pos) env whole) h P X:=by
 refine .testCmp he hne (fun va vb zq0 hvb=>?_) hm
 obtain⟨t,hva⟩:=zq0
 have hvb':vb = .ref net:=hvb
 subst hva hvb'
 obtain⟨ox,hox,c1,c2,c3,_⟩:=G.inst
 obtain⟨od,hod,_⟩:=S.mem hj
 refine .notIn (.containsOwn (hK.in S) (instAt (S.keep _ _ hox) c1 c2 c3 hod) (F.mCont dir) ((gcont_ok R hK F G S hj).post fun r h' ⟨e1,S'⟩=>⟨_,e1,_,rfl,k h' S'⟩))
end
end
section
set_option tactic.hygienic false
open PySem PySem.W PyProof.Rows
variable [GenI]
theorem few {vs:List Value} (h:vs.length≤100):vs.length≤sizeLine:=by rw [sizeLine_eq];exact nt80 h
theorem isTuple_of {h:Heap} {t:Addr} {o:Obj} {vs:List Value} (e:h.get? t=some o) (ht:TupO vs o):h.IsTuple t vs.toArray:=⟨o,e,ht.1,ht.2⟩
section
variable {prog:Program} {w:World} {A:Around} {env:Env} {h:Heap} {X:Value→Heap→Prop} {P:Flow→Heap→Prop} {B:PM} {ms:List (Addr×OP)} {L:Addr} {nms:List Str} {avs:List AV} {pos:Pos} {K:Frag} {rest:List Stmt}
theorem bind_many (O:EnvOk env L nms) (hnd:nms.Nodup):∀{l:List (Nat×Str×Value×AV)} {avs:List AV} {h:Heap} {g:Array GenState} {d:Drawn} {tk:Nat} {os:OsState} {Q:Unit→Shared→Prop} {E:Value→Shared→Prop},
  St B ((L,FrameO nms avs)::ms) h→(∀p∈l,nms[p.1]?=some p.2.1∧p.2.2.2.ok p.2.2.1)→
  (∀h' tk',St B ((L,FrameO nms (l.foldl (fun a p=>a.set p.1 p.2.2.2) avs))::ms) h'→Q () ⟨h',g,d,tk',os⟩)→
  wpAny (model prog w) A (assignInOrder (l.map fun p=>bindName env p.2.1) (l.map (·.2.2.1))) Q E ⟨h,g,d,tk,os⟩
 | [],avs,h,g,d,tk,os,Q,E,S,_,k=>wpAny_pure (k h tk S)
 | (i,x,v,av)::l,avs,h,g,d,tk,os,Q,E,S,hp,k=>by
  obtain⟨hx,hv⟩:=hp _ (.head _)
  show wpAny _ _ (assignInOrder (bindName env x::_) (v::_)) _ _ _
  exact wpAny_assignInOrder_more (wpAny_bindName (store_at O S hx hv hnd fun h2 tk2 S2=>bind_many O hnd S2 (fun p hp'=>hp p (.tail _ hp')) k))
theorem assign_many (O:EnvOk env L nms) (hnd:nms.Nodup):∀{l:List (Nat×Str×Value×AV)} {ps:List Pos} {avs:List AV} {h:Heap} {g:Array GenState} {d:Drawn} {tk:Nat} {os:OsState} {Q:Unit→Shared→Prop} {E:Value→Shared→Prop},ps.length=l.length→
  St B ((L,FrameO nms avs)::ms) h→(∀p∈l,nms[p.1]?=some p.2.1∧p.2.2.2.ok p.2.2.1)→
  (∀h' tk',St B ((L,FrameO nms (l.foldl (fun a p=>a.set p.1 p.2.2.2) avs))::ms) h'→Q () ⟨h',g,d,tk',os⟩)→
  wpAny (model prog w) A (assignInOrder (((l.zip ps).map fun p=>(false,PySem.assign (.Name p.1.2.1 p.2) env)).map (·.2)) (l.map (·.2.2.1))) Q E ⟨h,g,d,tk,os⟩
 | [],ps,avs,h,g,d,tk,os,Q,E,_,S,_,k=>wpAny_pure (k h tk S)
 | (i,x,v,av)::l,[],avs,h,g,d,tk,os,Q,E,hps,S,hp,k=>by contradiction
 | (i,x,v,av)::l,q::ps,avs,h,g,d,tk,os,Q,E,hps,S,hp,k=>by
  obtain⟨hx,hv⟩:=hp _ (.head _)
  show wpAny _ _ (assignInOrder (PySem.assign (.Name x q) env::_) (v::_)) _ _ _
  exact wpAny_assignInOrder_more (wpAny_assign_Name (store_at O S hx hv hnd fun h2 tk2 S2=>assign_many O hnd (by simpa using hps) S2 (fun p hp'=>hp p (.tail _ hp')) k))
theorem Cd.swap2 (O:EnvOk env L nms) (hh:A.handled=none) (S:St B ((L,FrameO nms avs)::ms) h) (i j:Nat) {x y:Str} {p1 p2 pt pv:Pos} {k1 k2:Nat} {e1 e2:PySem.Expr} {a1 a2:AV} (hx:nms[i]?=some x) (hy:nms[j]?=some y) (h1:Ev prog w A env h e1 a1) (h2:Ev prog w A env h e2 a2)
  (k:∀h2,St B ((L,FrameO nms ((avs.set j a2).set i a1))::ms) h2→Tr prog w A (execs rest env) h2 P X) (hn:StarE [e1,e2] env:=by rfl)
  (hs:swapsWithSole [.Tuple [.Name x p1,.Name y p2] k1 pt] (.Tuple [e1,e2] k2 pv) pos.line env=pure false:=by rfl) (hw:swappedStores [.Tuple [.Name x p1,.Name y p2] k1 pt] (.Tuple [e1,e2] k2 pv) env=pure (some [x,y]):=by rfl)
  (hnd:nms.Nodup:=by decide):Tr prog w A (execs (.Assign [.Tuple [.Name x p1,.Name y p2] k1 pt] (.Tuple [e1,e2] k2 pv) pos::rest) env) h P X:=by
 intro g d tk os Q E hg hq he
 refine wpAny_execs_cons (Assign_Tuple_swapped (names:=[x,y]) ?_ hs hw)
 refine(Tr.tupleD (P:=fun v h1=>∃v1 v2,a1.ok v1∧a2.ok v2∧v = .ref h.objs.size∧h1=h.push { cls:= .type "tuple",data:= .seq #[v1,v2]}) (X:=X) (.evE h1 fun v1 hv1=>.evE h2 fun v2 hv2=>.evNil ⟨few (by exact Nat.le_of_ble_eq_true rfl),v1,v2,hv1,hv2,rfl,rfl⟩) hn) g d tk os _ E hg (fun v h3 g3 tk3 hg3 zq0=>?_) he
 obtain⟨v1,v2,hv1,hv2,e,eh⟩:=zq0
 subst e eh
 have S1:=S.pushX { cls:= .type "tuple",data:= .seq #[v1,v2]}
 have hT:(h.push { cls:= .type "tuple",data:= .seq #[v1,v2]}).IsTuple h.objs.size #[v1,v2]:=⟨_,Heap.get?_push_size _ rfl,rfl,_,rfl⟩
 refine wpAny_unpackItems_tuple (items:= #[v1,v2]) hh hT fun h' hx'=>?_
 have S2:St B ((L,FrameO nms avs)::ms) h':=S1.ext fun b o e=>hx' b o (Nat.ne_of_lt (Heap.lt_size e)) e
 show wpAny _ _ (assignInOrder [bindName env y,bindName env x] [v2,v1]) _ _ _
 exact bind_many (l:=[(j,y,v2,a2),(i,x,v1,a1)]) O hnd S2 (fun p hp=>by
  rcases List.mem_cons.mp hp with rfl | hp
  ·exact⟨hy,hv2⟩
  ·rw [List.mem_singleton.mp hp];exact⟨hx,hv1⟩) fun h4 tk4 S4=>k h4 S4 g3 d tk4 os Q E hg3 hq he
inductive AsgC (prog:Program) (w:World) (A:Around) (env:Env) (X:Value→Heap→Prop) (P:Flow→Heap→Prop) (L:Addr) (nms:List Str) (rest:List Stmt) (elts:List PySem.Expr) (v:Value) (h1:Heap):Prop
 | mk (B:PM) (ms:List (Addr×OP)) (avs:List AV) (T:Addr) (vs:Array Value) (e:v = .ref T) (S:St B ((L,FrameO nms avs)::ms) h1) (hT:h1.IsTuple T vs) (l:List (Nat×Str×Value×AV)) (ps:∃ps:List Pos,ps.length=l.length∧elts=(l.zip ps).map fun p=>.Name p.1.2.1 p.2) (hl:l.map (·.2.2.1)=vs.toList) (hp:∀p∈l,nms[p.1]?=some p.2.1∧p.2.2.2.ok p.2.2.1)
  (k:∀h2,St B ((L,FrameO nms (l.foldl (fun a p=>a.set p.1 p.2.2.2) avs))::ms) h2→Tr prog w A (execs rest env) h2 P X)
theorem Cd.asgCall (O:EnvOk env L nms) (hh:A.handled=none) {elts:List PySem.Expr} {k1:Nat} {pt:Pos} {e:PySem.Expr} (hnd:nms.Nodup)
  (h1:Tr prog w A (eval e env) h (AsgC prog w A env X P L nms rest elts) X)
  (hs:swapsWithSole [.Tuple elts k1 pt] e pos.line env=pure false:=by rfl) (hw:swappedStores [.Tuple elts k1 pt] e env=pure none:=by rfl):Tr prog w A (execs (.Assign [.Tuple elts k1 pt] e pos::rest) env) h P X:=by
 intro g d tk os Q E hg hq he
 refine wpAny_execs_cons (Assign_Tuple (h1 g d tk os _ E hg (fun v h2 g2 tk2 hg2 k=>?_) he) hs hw)
 obtain⟨B,ms,avs,T,vs,rfl,S,hT,l,⟨ps,hps,rfl⟩,hl,hp,k⟩:=k
 have names:∀(l:List (Nat×Str×Value×AV)) (ps:List Pos),ps.length=l.length→assignEach ((l.zip ps).map fun p=>PySem.Expr.Name p.1.2.1 p.2) env=(l.zip ps).map fun p=>(false,PySem.assign (.Name p.1.2.1 p.2) env):=fun l=>by
  induction l with
  | nil=>intro ps _;rfl
  | cons p r ih=>
   intro ps hps
   cases ps with
   | nil=>contradiction
   | cons q qs=>rw [List.zip_cons_cons,List.map_cons,List.map_cons,←ih qs (by simpa using hps)];rfl
 refine wpAny_assign_Tuple hh hT ?_ ?_ fun h' hx'=>?_
 ·rw [names l ps hps,List.length_map,List.length_zip,hps,Nat.min_self,show l.length=(l.map (·.2.2.1)).length from(List.length_map ..).symm,hl];simp
 ·rw [names l ps hps,List.findIdx?_eq_none_iff]
  intro p hp
  obtain⟨q,_,rfl⟩:=List.mem_map.mp hp
  rfl
 ·have S2:St B ((L,FrameO nms avs)::ms) h':=S.ext fun b o e=>hx' b o (Nat.ne_of_lt (Heap.lt_size e)) e
  rw [names l ps hps,←hl]
  exact assign_many O hnd hps S2 hp fun h3 tk3 S3=>k h3 S3 g2 d tk3 os Q E hg2 hq he
end
end
section
set_option tactic.hygienic false
open PySem PySem.W PyProof.Rows
variable [GenI]
noncomputable def sBd:Stmt:=topSt 17
noncomputable def bdW:List Stmt:=fnBody ((fnBody sBd).getD 16 (.Pass default))
noncomputable def bdF:List Stmt:=fnBody (bdW.getD 5 (.Pass default))
noncomputable def nmBd:List Str:=["G","source","target","weight","dists","path","fringe","seen","c","neighbors","finaldist","meetnode","direction","dist","_","v","w","d","cost","vwLength","finaldist_w"]
noncomputable def envBd (L:Addr) (cd:Value):Env:=envC sBd "bidirectional_dijkstra" L 197 cd
theorem okBd {L:Addr} {cd:Value}:EnvOk (envBd L cd) L nmBd:= .ofC (by decide +kernel)
noncomputable def optAv:Option Nat→AV
 | none=>.val .none
 | some a=>.int (a:Nat)
noncomputable def dAv (f:NM):Nat→Option AV:=fun k=>(f k).map fun a:Nat=>.int a
noncomputable def pAv (f:Nat→Option (Option Nat)):Nat→Option AV:=fun k=>(f k).map optAv
theorem dAv_upd {f:NM} {k a:Nat}:(fun j=>if j=k then some (.int (a:Nat))else dAv f j)=dAv (upd f k a):=by
 funext j;unfold dAv upd;by_cases q:j=k <;> simp [q]
theorem pAv_upd {f:Nat→Option (Option Nat)} {k:Nat} {a:Option Nat}:(fun j=>if j=k then some (optAv a)else pAv f j)=pAv (upd f k a):=by
 funext j;unfold pAv upd;by_cases q:j=k <;> simp [q]
theorem dAv_isSome {f:NM} {k:Nat}:(dAv f k).isSome=(f k).isSome:=by unfold dAv;simp
theorem dAv_some {f:NM} {k a:Nat} (h:f k=some a):dAv f k=some (.int (a:Nat)):=by unfold dAv;rw [h];rfl
noncomputable def qBd:QK Ent:=⟨(·.1),(·.2.1),fun e r=>∃t,r = [.int (e.2.2:Nat) t]⟩
noncomputable def avBd (net ld fp lf ls cn ln:Addr) (s t:Nat) (fd mt:Option Nat) (dir:Nat) (x13 x14 x15 x16 x17 x18 x19 x20:AV):List AV:=
 [.val (.ref net),.int (s:Nat),.int (t:Nat),.val (.ref 966),.val (.ref ld),.val (.ref fp),.val (.ref lf),.val (.ref ls),.val (.ref cn),.val (.ref ln),optAv fd,optAv mt,.int (dir:Nat),x13,x14,x15,x16,x17,x18,x19,x20]
inductive PairB (B:PM) (l:Addr) (dir:Nat) (a b:Addr):Prop
 | mk (o xs) (f1:B l=some o) (f2:ListO xs o) (f3:xs[dir]?=some (.ref a)) (f4:xs[1 - dir]?=some (.ref b)):PairB B l dir a b
theorem PairB.le {B B':PM} {l dir a b} (p:PairB B l dir a b) (h:B.le B'):PairB B' l dir a b:=by
 obtain⟨o,xs,e,r1,r2,r3⟩:=p;exact⟨o,xs,h _ _ e,r1,r2,r3⟩
theorem PairB.swap {B:PM} {l dir a b} (p:PairB B l dir a b) (h:dir≤1):PairB B l (1 - dir) b a:=by
 obtain⟨o,xs,e,hl,h1,h2⟩:=p
 refine⟨o,xs,e,hl,h2,?_⟩
 rw [show 1 - (1 - dir)=dir from by exact nt72 h];exact h1
structure BdC (prog:Program) (w:World) (K:Frag) (B:PM) (L:Addr) (dir:Nat) (ld lp lf ls ln dc dA pA sA fA dB pB sB fB aA:Addr) (n:Nat) (Ed:Nat→Nat→Option (Option Nat)):Prop where
 inK:InK K B
 cF:CountF K B
 lw:FnAt B 966 sLw "_law_weight" .none .none
 gPush:GName B "heappush" (.builtin "_heapq.heappush")
 gPop:GName B "heappop" (.builtin "_heapq.heappop")
 gNext:GName B "next" (.builtin "next")
 d:PairB B ld dir dA dB
 p:PairB B lp dir pA pB
 s:PairB B ls dir sA sB
 f:PairB B lf dir fA fB
 nb:∃aB,PairB B ln dir aA aB
 cell:∃o,B (L+1)=some o∧o.data = .cell (some (.ref lp))
 cnt:∃od,B dc=some od
 tab:TabB prog w B aA n Ed
theorem BdC.le {prog w K B B' L dir ld lp lf ls ln dc dA pA sA fA dB pB sB fB aA n Ed} (c:BdC prog w K B L dir ld lp lf ls ln dc dA pA sA fA dB pB sB fB aA n Ed) (h:B.le B'):BdC prog w K B' L dir ld lp lf ls ln dc dA pA sA fA dB pB sB fB aA n Ed:=by
 obtain⟨aB,hnb⟩:=c.nb
 obtain⟨o,h1,h2⟩:=c.cell
 obtain⟨od,h3⟩:=c.cnt
 exact⟨c.inK.le h,c.cF.le h,c.lw.le h,c.gPush.le h,c.gPop.le h,c.gNext.le h,c.d.le h,c.p.le h,c.s.le h,c.f.le h,⟨aB,hnb.le h⟩,⟨o,h _ _ h1,h2⟩,⟨od,h _ _ h3⟩,c.tab.le h⟩
noncomputable def frBd (prog:Program) (w:World) (n:Nat) (cn dc dA pA sA fA dB pB sB fB:Addr) (cnt:Nat) (DA:NM) (PA:Nat→Option (Option Nat)) (SA:NM) (xsA:Array Value) (DB:NM) (PB:Nat→Option (Option Nat)) (SB:NM) (xsB:Array Value):List (Addr×OP):=
 [(cn,CountO dc (cnt:Nat)),(dA,MapO prog w n (dAv DA)),(pA,MapO prog w n (pAv PA)),(sA,MapO prog w n (dAv SA)),(fA,ListO xsA),(dB,MapO prog w n (dAv DB)),(pB,MapO prog w n (pAv PB)),(sB,MapO prog w n (dAv SB)),(fB,ListO xsB)]
section
variable {prog:Program} {w:World} {A:Around} {env:Env} {h:Heap} {X:Value→Heap→Prop} {B:PM} {ms:List (Addr×OP)} {L:Addr} {nms:List Str} {avs:List AV} {pos:Pos} {K:Frag}
theorem Ev.eqI {e:PySem.Expr} {i j:Int} (h1:Ev prog w A env h e (.int i)) (e1:i=j):Ev prog w A env h e (.int j):=e1▸h1
theorem Ev.pair {e i:PySem.Expr} {l a b:Addr} {dir:Nat} (S:St B ms h) (p:PairB B l dir a b) (hd:dir≤1) (he:Ev prog w A env h e (.val (.ref l))) (hi:Ev prog w A env h i (.int (dir:Nat)))
  (hsl:∀va vb,subscripted i false va vb=operate [va,vb] (getItem va vb):=by intro _ _;with_unfolding_all rfl):Ev prog w A env h (.Subscript e i pos) (.val (.ref a)):=by
 obtain⟨o,xs,e1,hl,h1,h2⟩:=p
 exact Ev.subL he hi ⟨o,S.keep _ _ e1,hl⟩ h1 rfl (by omega) hsl
theorem notMods_of (S:St B ms h) {j:Nat} {a:Addr} {P:OP} (hj:ms[j]?=some (a,P)):(a == sysModules)=false:=S.notMods hj
theorem Cd.ifB {c:PySem.Expr} {b:Bool} {b1 b2 rest:List Stmt} {P:Flow→Heap→Prop} (hc:Et prog w A env h c b) (h1:b=true→Tr prog w A (execs (b1++rest) env) h P X) (h2:b=false→Tr prog w A (execs (b2++rest) env) h P X):
  Tr prog w A (execs (.If c b1 b2 pos::rest) env) h P X:=by
 cases b with
 | true=>exact Cd.ifT hc (h1 rfl)
 | false=>exact Cd.ifF hc (h2 rfl)
structure ScanOk (prog:Program) (w:World) (B:PM) (n s:Nat) (Ed:Nat→Nat→Option (Option Nat)) (DA SA:NM) (PA:Nat→Option (Option Nat)) (xsA:Array Value) (FA:List Ent) (SB:NM) (xsB:Array Value) (FB:List Ent) (fd mt:Option Nat) (cnt v k:Nat) (R:Nat→Prop):Prop where
 side:Side n s (fun x y c=>Ed x y=some (some c)) DA SA PA FA v R
 dv:DA v=some k
 low:∀x a,DA x=some a→a≤k
 qA:QuB qBd B xsA FA
 qB:QuB qBd B xsB FB
 meet:Meet SA SB fd mt
 cA:∀e∈FA,e.2.1<cnt
 cB:∀e∈FB,e.2.1<cnt
 ds:(DA s).isSome=true
theorem bdF_ok {A:Around} {cd:Value} {dir n s gs gt cnt v k x lim:Nat} {net ld fp lp lf ls cn ln dc dA pA sA fA dB pB sB fB aA da I:Addr} {q:OP} {tail:List (Addr×OP)} {Ed:Nat→Nat→Option (Option Nat)} {DA SA DB SB:NM} {PA PB:Nat→Option (Option Nat)} {xsA xsB:Array Value} {FA FB:List Ent} {fd mt:Option Nat} {x14 x18 x19 x20:AV} {R:Nat→Prop} {oc:Option Nat} {od:Obj} {P:Flow→Heap→Prop}
  (Rm:Room A 10 100) (hn:n≤6) (hd:dir≤1) (C:BdC prog w K B L dir ld lp lf ls ln dc dA pA sA fA dB pB sB fB aA n Ed) (Q:ScanOk prog w B n s Ed DA SA PA xsA FA SB xsB FB fd mt cnt v k R) (hlim:FA.length≤lim) (hl2:lim<3000)
  (hx:x<n) (hE:Ed v x=some oc) (hda:B da=some od) (hD:DataO prog w oc od) (hdm:(da == sysModules)=false)
  (S:St B ((L,FrameO nmBd (avBd net ld fp lf ls cn ln gs gt fd mt dir (.int (k:Nat)) x14 (.int (v:Nat)) (.int (x:Nat)) (.val (.ref da)) x18 x19 x20))::(frBd prog w n cn dc dA pA sA fA dB pB sB fB cnt DA PA SA xsA DB PB SB xsB++(I,q)::tail)) h)
  (kP:∀f h' B' cnt' PA' SA' xsA' FA' fd' mt' y18 y19 y20,(f = .next∨f = .cont)→B.le B'→
   St B' ((L,FrameO nmBd (avBd net ld fp lf ls cn ln gs gt fd' mt' dir (.int (k:Nat)) x14 (.int (v:Nat)) (.int (x:Nat)) (.val (.ref da)) y18 y19 y20))::(frBd prog w n cn dc dA pA sA fA dB pB sB fB cnt' DA PA' SA' xsA' DB PB SB xsB++(I,q)::tail)) h'→
   ScanOk prog w B' n s Ed DA SA' PA' xsA' FA' SB xsB FB fd' mt' cnt' v k (fun y=>R y∨y=x)→FA'.length≤lim+1→P f h'):
  Tr prog w A (execs bdF (envBd L cd)) h P X:=by
 have O:EnvOk (envBd L cd) L nmBd:=okBd
 have pass:(∀c,oc=some c→∃b,SA x=some b∧b≤k+c)→ScanOk prog w B n s Ed DA SA PA xsA FA SB xsB FB fd mt cnt v k (fun y=>R y∨y=x):=fun hp=>
  ⟨Q.side.pass Q.dv fun c hc=>hp c (by rw [hE] at hc;exact Option.some.inj hc),Q.dv,Q.low,Q.qA,Q.qB,Q.meet,Q.cA,Q.cB,Q.ds⟩
 have fin:∀{h2:Heap},St B ((L,FrameO nmBd (avBd net ld fp lf ls cn ln gs gt fd mt dir (.int (k:Nat)) x14 (.int (v:Nat)) (.int (x:Nat)) (.val (.ref da)) (wAv oc) x19 x20))::(frBd prog w n cn dc dA pA sA fA dB pB sB fB cnt DA PA SA xsA DB PB SB xsB++(I,q)::tail)) h2→
   Tr prog w A (execs (bdF.drop 1) (envBd L cd)) h2 P X:=by
  intro h2 S2
  cases oc with
  | none=>
   refine Cd.ifT (Et.eq (.cmp (.name O S2 18 rfl rfl) .cNone .isNone) rfl) ?_
   exact Cd.cont (kP _ _ _ _ _ _ _ _ _ _ _ _ _ (.inr rfl) (PM.le_refl _) S2 (pass fun c hc=>by contradiction) (nt187 hlim))
  | some c=>
   refine Cd.ifF (Et.eq (.cmp (.name O S2 18 rfl rfl) .cNone .isNone) rfl) ?_
   refine Cd.assignE O S2 19 rfl (av:= .int ((k+c:Nat):Int)) (.eqI (.add (.name O S2 13 rfl rfl) (.name O S2 18 rfl rfl)) (by push_cast;rfl)) fun h3 S3=>?_
   obtain⟨oD,hoD,mD⟩:=S3.mem (i:=2) rfl
   have eD:∀pos p1 p2,Ev prog w A (envBd L cd) h3 (.Subscript (.Name "dists" p1) (.Name "direction" p2) pos) (.val (.ref dA)):=fun pos p1 p2=>.pair S3 C.d hd (.name O S3 4 rfl rfl) (.name O S3 12 rfl rfl)
   have mdA:=notMods_of S3 (j:=2) rfl
   cases hDx:DA x with
   | some a=>
    refine Cd.ifT (Et.eq (.cmp (.name O S3 16 rfl rfl) (eD _ _ _) (.inM hoD mD mdA)) (by rw [dAv_isSome,hDx];rfl)) ?_
    refine Cd.ifF (Et.eq (.cmp (.name O S3 19 rfl rfl) (.subM (eD _ _ _) (.name O S3 16 rfl rfl) hoD mD (dAv_some hDx)) .lt) (by have:=Q.low x a hDx;simp;exact nt275 this)) ?_
    exact Cd.nil (kP _ _ _ _ _ _ _ _ _ _ _ _ _ (.inl rfl) (PM.le_refl _) S3 (pass fun c' hc=>⟨a,Q.side.ds x a hDx,by have:=Q.low x a hDx;exact nt276 this⟩) (nt187 hlim))
   | none=>
    refine Cd.ifF (Et.eq (.cmp (.name O S3 16 rfl rfl) (eD _ _ _) (.inM hoD mD mdA)) (by rw [dAv_isSome,hDx];rfl)) ?_
    obtain⟨oS,hoS,mS⟩:=S3.mem (i:=4) rfl
    have eS:∀pos p1 p2,Ev prog w A (envBd L cd) h3 (.Subscript (.Name "seen" p1) (.Name "direction" p2) pos) (.val (.ref sA)):=fun pos p1 p2=>.pair S3 C.s hd (.name O S3 7 rfl rfl) (.name O S3 12 rfl rfl)
    have msA:=notMods_of S3 (j:=4) rfl
    have hxs:x≠s:=fun e=>by have:=Q.ds;rw [←e,hDx] at this;contradiction
    refine Cd.ifB (b:=match SA x with | none=>true | some b=>decide (k+c<b)) ?_ (fun hb=>?_) (fun hb=>?_)
    ·cases hSx:SA x with
     | none=>exact Et.eq (.bool (.or (b2:=true) (.cmp (.name O S3 16 rfl rfl) (eS _ _ _) (.notInM hoS mS msA)) fun q=>absurd q (by rw [dAv_isSome,hSx];decide))) (by rw [dAv_isSome,hSx];rfl)
     | some b=>exact Et.eq (.bool (.or (.cmp (.name O S3 16 rfl rfl) (eS _ _ _) (.notInM hoS mS msA)) fun q=>.or (.cmp (.name O S3 19 rfl rfl) (.subM (eS _ _ _) (.name O S3 16 rfl rfl) hoS mS (dAv_some hSx)) .lt) fun _=>.orNil)) (by rw [dAv_isSome,hSx];simp;exact nt200)
    ·have hlt:∀b,SA x=some b→k+c<b:=fun b e=>by rw [e] at hb;exact of_decide_eq_true hb
     refine Cd.storeM S3 (j:=4) rfl (.name O S3 19 rfl rfl) (eS _ _ _) (.name O S3 16 rfl rfl) hx hn fun h4 S4=>?_
     rw [dAv_upd] at S4
     have S4:St B ((L,FrameO nmBd (avBd net ld fp lf ls cn ln gs gt fd mt dir (.int (k:Nat)) x14 (.int (v:Nat)) (.int (x:Nat)) (.val (.ref da)) (.int (c:Nat)) (.int ((k+c:Nat):Int)) x20))::(frBd prog w n cn dc dA pA sA fA dB pB sB fB cnt DA PA (upd SA x (k+c)) xsA DB PB SB xsB++(I,q)::tail)) h4:=S4
     obtain⟨odc,hodc⟩:=C.cnt
     refine Cd.expr (.callName (.g O S4 C.gPush) (.evE (.pair S4 C.f hd (.name O S4 6 rfl rfl) (.name O S4 12 rfl rfl)) fun v0 hv0=>.evCons (.tupleD (.evE (.name O S4 19 rfl rfl) fun v1 hv1=>.evCons (.callName (.g O S4 C.gNext) (.evE (.name O S4 8 rfl rfl) fun v2 hv2=>.evNil ⟨.builtin,?_⟩))))))
     have hv0':v0 = .ref fA:=hv0
     have hv2':v2 = .ref cn:=hv2
     subst hv0' hv2'
     refine(Tr.next (Rm.le (by decide) (by decide)) C.inK C.cF S4 (j:=1) rfl hodc).post fun vc h5 zq0=>?_
     obtain⟨⟨tc,hvc⟩,S5⟩:=zq0
     have ecast:((cnt:Nat):Int)+1=((cnt+1:Nat):Int):=by push_cast;rfl
     rw [ecast] at S5
     have S5:St B ((L,FrameO nmBd (avBd net ld fp lf ls cn ln gs gt fd mt dir (.int (k:Nat)) x14 (.int (v:Nat)) (.int (x:Nat)) (.val (.ref da)) (.int (c:Nat)) (.int ((k+c:Nat):Int)) x20))::(frBd prog w n cn dc dA pA sA fA dB pB sB fB (cnt+1) DA PA (upd SA x (k+c)) xsA DB PB SB xsB++(I,q)::tail)) h5:=S5
     refine .evE (.name O S5 16 rfl rfl) fun v3 hv3=>.evNil ⟨few (by exact Nat.le_of_ble_eq_true rfl),.evNil ⟨.builtin,?_⟩⟩
     obtain⟨t1,rfl⟩:=hv1
     obtain⟨t3,rfl⟩:=hv3
     subst hvc
     have hle:B.le (B.put h5.objs.size { cls:= .type "tuple",data:= .seq [Value.int ((k+c:Nat):Int) t1,.int (cnt:Nat) tc,.int (x:Nat) t3].toArray}):=PM.le_put (S5.notB_of_none (St.push_none h5))
     have S6:=S5.pushB (o:={ cls:= .type "tuple",data:= .seq [Value.int ((k+c:Nat):Int) t1,.int (cnt:Nat) tc,.int (x:Nat) t3].toArray})
     revert hle S6
     generalize hB':B.put h5.objs.size { cls:= .type "tuple",data:= .seq [Value.int ((k+c:Nat):Int) t1,.int (cnt:Nat) tc,.int (x:Nat) t3].toArray} =B'
     intro hle S6
     have hput:B' h5.objs.size=some { cls:= .type "tuple",data:= .seq [Value.int ((k+c:Nat):Int) t1,.int (cnt:Nat) tc,.int (x:Nat) t3].toArray}:=by rw [←hB'];exact PM.put_self
     have C':=C.le hle
     have ent:EntB qBd B' (.ref h5.objs.size) (k+c,cnt,x):=⟨_,_,t1,tc,_,rfl,hput,⟨rfl,_,rfl⟩,t3,rfl⟩
     refine Tr.heappush (q:=qBd) (Rm.le (by decide) (by decide)) S6 (j:=5) rfl (Q.qA.le hle) ent (fun hm=>?_) (nt188 hlim hl2) fun ys F' h7 S7 q7 p7=>?_
     ·obtain⟨e,he,hc⟩:=List.mem_map.mp hm
      have:=Q.cA e he
      have hc':e.2.1=cnt:=hc
      exact nt145 this hc'
     have S7:St B' ((L,FrameO nmBd (avBd net ld fp lf ls cn ln gs gt fd mt dir (.int (k:Nat)) x14 (.int (v:Nat)) (.int (x:Nat)) (.val (.ref da)) (.int (c:Nat)) (.int ((k+c:Nat):Int)) x20))::(frBd prog w n cn dc dA pA sA fA dB pB sB fB (cnt+1) DA PA (upd SA x (k+c)) ys DB PB SB xsB++(I,q)::tail)) h7:=S7
     obtain⟨oc',hoc',hcd⟩:=C'.cell
     refine Cd.storeM S7 (j:=3) rfl (av:=optAv (some v)) (.name O S7 15 rfl rfl) (.pair S7 C'.p hd (.cell rfl rfl rfl ⟨_,S7.keep _ _ hoc',hcd⟩) (.name O S7 12 rfl rfl)) (.name O S7 16 rfl rfl) hx hn fun h8 S8=>?_
     rw [pAv_upd] at S8
     have S8:St B' ((L,FrameO nmBd (avBd net ld fp lf ls cn ln gs gt fd mt dir (.int (k:Nat)) x14 (.int (v:Nat)) (.int (x:Nat)) (.val (.ref da)) (.int (c:Nat)) (.int ((k+c:Nat):Int)) x20))::(frBd prog w n cn dc dA pA sA fA dB pB sB fB (cnt+1) DA (upd PA x (some v)) (upd SA x (k+c)) ys DB PB SB xsB++(I,q)::tail)) h8:=S8
     have newOk:∀{fd' mt'},Meet (upd SA x (k+c)) SB fd' mt'→ScanOk prog w B' n s Ed DA (upd SA x (k+c)) (upd PA x (some v)) ys F' SB xsB FB fd' mt' (cnt+1) v k (fun y=>R y∨y=x):=fun hM=>
      ⟨(Q.side.push (m:=cnt) Q.dv hE (fun c' h'=>by have h':Ed v x=some (some c'):=h';rw [hE] at h';obtain h'00:=Option.some.inj h';obtain rfl:=Option.some.inj h'00;rfl) hDx hx hxs hlt Q.low).perm p7,Q.dv,Q.low,q7,Q.qB.le hle,hM,
       fun e he=>by
        rcases List.mem_cons.mp (p7.mem_iff.mp he)with rfl | he
        ·exact Nat.lt_succ_self _
        ·exact Nat.lt_succ_of_lt (Q.cA e he),
       fun e he=>Nat.lt_succ_of_lt (Q.cB e he),Q.ds⟩
     have hlen:F'.length≤lim+1:=by rw [p7.length_eq,List.length_cons];exact nt185 hlim
     obtain⟨oS2,hoS2,mS2⟩:=S8.mem (i:=8) rfl
     have hd2:1 - dir≤1:=nt74 hd
     have eS2:∀pos p1 p2 p3 p4 k1,Ev prog w A (envBd L cd) h8 (.Subscript (.Name "seen" p1) (.BinOp (.Constant (.int 1) k1 p2) .Sub (.Name "direction" p3) p4) pos) (.val (.ref sB)):=fun pos p1 p2 p3 p4 k1=>
      .pair S8 (C'.s.swap hd) hd2 (.name O S8 7 rfl rfl) (.eqI (i:=1 - (dir:Nat)) (.sub .cInt (.name O S8 12 rfl rfl)) (nt73 hd))
     have msB:=notMods_of S8 (j:=8) rfl
     cases hSB:SB x with
     | none=>
      refine Cd.ifF (Et.eq (.cmp (.name O S8 16 rfl rfl) (eS2 _ _ _ _ _ _) (.inM hoS2 mS2 msB)) (by rw [dAv_isSome,hSB];rfl)) ?_
      exact Cd.nil (kP _ _ _ _ _ _ _ _ _ _ _ _ _ (.inl rfl) hle S8 (newOk (Q.meet.pushNo hSB)) hlen)
     | some b=>
      refine Cd.ifT (Et.eq (.cmp (.name O S8 16 rfl rfl) (eS2 _ _ _ _ _ _) (.inM hoS2 mS2 msB)) (by rw [dAv_isSome,hSB];rfl)) ?_
      refine Cd.assignE O S8 20 rfl (av:= .int ((k+c+b:Nat):Int)) (.eqI (.add (.name O S8 19 rfl rfl) (.subM (eS2 _ _ _ _ _ _) (.name O S8 16 rfl rfl) hoS2 mS2 (dAv_some hSB))) (by push_cast;rfl)) fun h9 S9=>?_
      have hY:=Q.meet.pushYes (l:=k+c) hSB hlt
      cases fd with
      | none=>
       rw [if_pos (.inl rfl)] at hY
       refine Cd.ifT (Et.eq (.bool (.or (b2:=true) (.cmp (.name O S9 10 rfl rfl) .cNone .isNone) fun q=>absurd q (by decide))) rfl) ?_
       refine Cd.swap2 O Rm.hh S9 10 11 rfl rfl (.name O S9 20 rfl rfl) (.name O S9 16 rfl rfl) fun h10 S10=>?_
       exact Cd.nil (kP _ _ _ _ _ _ _ _ (some (k+c+b)) (some x) _ _ _ (.inl rfl) hle S10 (newOk hY) hlen)
      | some d0=>
       refine Cd.ifB (b:=decide (k+c+b<d0)) (Et.eq (.bool (.or (.cmp (.name O S9 10 rfl rfl) .cNone .isNone) fun q=>.or (.cmp (.name O S9 10 rfl rfl) (.name O S9 20 rfl rfl) .gt) fun _=>.orNil)) ((Bool.or_false _).trans (decide_eq_decide.mpr Int.ofNat_lt))) (fun hb=>?_) (fun hb=>?_)
       ·have hb':=of_decide_eq_true hb
        rw [if_pos (.inr ⟨d0,rfl,hb'⟩)] at hY
        refine Cd.swap2 O Rm.hh S9 10 11 rfl rfl (.name O S9 20 rfl rfl) (.name O S9 16 rfl rfl) fun h10 S10=>?_
        exact Cd.nil (kP _ _ _ _ _ _ _ _ (some (k+c+b)) (some x) _ _ _ (.inl rfl) hle S10 (newOk hY) hlen)
       ·have hb':=of_decide_eq_false hb
        rw [if_neg (by rintro(h | ⟨d,e,hd⟩);contradiction;obtain rfl:=Option.some.inj e;exact hb' hd)] at hY
        exact Cd.nil (kP _ _ _ _ _ _ _ _ (some d0) mt _ _ _ (.inl rfl) hle S9 (newOk hY) hlen)
    ·have hge:∃b,SA x=some b∧b≤k+c:=by
      cases hSx:SA x with
      | none=>rw [hSx] at hb;contradiction
      | some b=>rw [hSx] at hb;exact⟨b,rfl,by have:=of_decide_eq_false hb;exact nt283 this⟩
     exact Cd.nil (kP _ _ _ _ _ _ _ _ _ _ _ _ _ (.inl rfl) (PM.le_refl _) S3 (pass fun c' hc=>by obtain rfl:=Option.some.inj hc;exact hge) (by omega))
 refine Cd.assign O 18 rfl (.if_ (.cmp (.name O S 12 rfl rfl) .cInt .eq) (fun _=>.callName (.name O S 3 rfl rfl) (.evE (.name O S 15 rfl rfl) fun v1 hv1=>.evE (.name O S 16 rfl rfl) fun v2 hv2=>.evE (.name O S 17 rfl rfl) fun v3 hv3=>.evNil ⟨Kp.ofFn S C.lw,?_⟩))
  (fun _=>.callName (.name O S 3 rfl rfl) (.evE (.name O S 16 rfl rfl) fun v1 hv1=>.evE (.name O S 15 rfl rfl) fun v2 hv2=>.evE (.name O S 17 rfl rfl) fun v3 hv3=>.evNil ⟨Kp.ofFn S C.lw,?_⟩)))
 all_goals
  have hv3':v3 = .ref da:=hv3
  subst hv3'
  exact(lw_ok (Rm.le (by decide) (by decide)) C.lw C.cF.lim S hda hD hdm).post fun v' h2 ⟨hv',S2⟩=>⟨_,_,_,wAv oc,S2,hv',fun h3 S3=>fin S3⟩
end
end
section
set_option tactic.hygienic false
open PySem PySem.W PyProof.Rows
variable [GenI]
section
variable {prog:Program} {w:World} {A:Around} {env:Env} {h:Heap} {X:Value→Heap→Prop} {P:Flow→Heap→Prop} {B:PM} {ms:List (Addr×OP)} {L:Addr} {nms:List Str} {avs:List AV} {pos:Pos} {K:Frag}
theorem Tr.items {e:PySem.Expr} {ap:Pos} {d:Addr} {o:Obj} {kvs:List (Int×Value)} {P:Value→Heap→Prop} (he:Ev prog w A env h e (.val (.ref d))) (ho:h.get? d=some o) (hd:DictO prog w kvs o) (hm:(d == sysModules)=false)
  (k:P (.ref h.objs.size) (h.push { cls:= .type "dict_items",data:= .fields #[.ref d]})) (hbase:attributeBase e "items" env (eval e env)=eval e env:=by rfl) (hline:(ap.endLine == pos.line)=true:=by rfl):
  Tr prog w A (eval (.Call (.Attribute e "items" ap) [] [] pos) env) h P X:=by
 have hdo:h.DictOf (intKind prog w) d kvs:=dictO_iff.mpr ⟨o,ho,hd⟩
 refine .callMeth he (.builtin (fun g dr tk os=>hdo.mapOf.typeIs (s:=⟨h,g,dr,tk,os⟩)) PySem.F.plainAttrs_dict PySem.F.slot_dict_items PySem.F.type_dict_items hdo.mapOf.noDict) (.evNil ⟨.builtin,?_⟩) hbase rfl hline
 intro g dr tk os Q E hg hq hE
 exact call_meetsIn PySem.F.slot_dict_items hdo.mapOf.typeIs PySem.F.entry_dict_items (PySem.F.args_dict_items_1 _) (meets_dict_items (intKind prog w) d hm) ⟨⟨kvs,hdo⟩,hq _ _ _ _ hg k⟩
inductive BdJ (prog:Program) (w:World) (B:PM) (net ld fp lf ls cn ln dc dA pA sA fA dB pB sB fB:Addr) (gs gt dir n s v k lim:Nat) (x14:AV) (Ed:Nat→Nat→Option (Option Nat)) (DA DB SB:NM) (PB:Nat→Option (Option Nat)) (xsB:Array Value) (FB:List Ent) (kvs:List (Int×Value)) (i:Nat) (B':PM) (front:List (Addr×OP)) (avs:List AV):Prop
 | mk (cnt':Nat) (PA':Nat→Option (Option Nat)) (SA':NM) (xsA':Array Value) (FA':List Ent) (fd' mt':Option Nat) (y16 y17 y18 y19 y20:AV) (R:Nat→Prop) (hf:front=frBd prog w n cn dc dA pA sA fA dB pB sB fB cnt' DA PA' SA' xsA' DB PB SB xsB)
   (ha:avs=avBd net ld fp lf ls cn ln gs gt fd' mt' dir (.int (k:Nat)) x14 (.int (v:Nat)) y16 y17 y18 y19 y20) (hle:B.le B') (hQ:ScanOk prog w B' n s Ed DA SA' PA' xsA' FA' SB xsB FB fd' mt' cnt' v k R) (hR:∀j,j<i→∀(y:Nat) val,kvs[j]?=some ((y:Int),val)→R y) (hl:FA'.length≤lim+i):
   BdJ prog w B net ld fp lf ls cn ln dc dA pA sA fA dB pB sB fB gs gt dir n s v k lim x14 Ed DA DB SB PB xsB FB kvs i B' front avs
theorem bdScan_ok {A:Around} {cd:Value} {dir n s gs gt cnt v k lim:Nat} {net ld fp lp lf ls cn ln dc dA pA sA fA dB pB sB fB aA:Addr} {tail:List (Addr×OP)} {Ed:Nat→Nat→Option (Option Nat)} {DA SA DB SB:NM} {PA PB:Nat→Option (Option Nat)} {xsA xsB:Array Value} {FA FB:List Ent} {fd mt:Option Nat} {x14 x16 x17 x18 x19 x20:AV}
  (Rm:Room A 10 100) (hn:n≤6) (hd:dir≤1) (hv:v<n) (C:BdC prog w K B L dir ld lp lf ls ln dc dA pA sA fA dB pB sB fB aA n Ed) (Q:ScanOk prog w B n s Ed DA SA PA xsA FA SB xsB FB fd mt cnt v k (fun _=>False)) (hlim:FA.length≤lim) (hl2:lim<2000)
  (S:St B ((L,FrameO nmBd (avBd net ld fp lf ls cn ln gs gt fd mt dir (.int (k:Nat)) x14 (.int (v:Nat)) x16 x17 x18 x19 x20))::(frBd prog w n cn dc dA pA sA fA dB pB sB fB cnt DA PA SA xsA DB PB SB xsB++tail)) h)
  (kP:∀h' B' cnt' PA' SA' xsA' FA' fd' mt' y14 y16 y17 y18 y19 y20,B.le B'→
   St B' ((L,FrameO nmBd (avBd net ld fp lf ls cn ln gs gt fd' mt' dir (.int (k:Nat)) y14 (.int (v:Nat)) y16 y17 y18 y19 y20))::(frBd prog w n cn dc dA pA sA fA dB pB sB fB cnt' DA PA' SA' xsA' DB PB SB xsB++tail)) h'→
   ScanOk prog w B' n s Ed DA SA' PA' xsA' FA' SB xsB FB fd' mt' cnt' v k (fun _=>True)→FA'.length≤lim+n→P .next h'):
  Tr prog w A (execs (bdW.drop 5) (envBd L cd)) h P X:=by
 have O:EnvOk (envBd L cd) L nmBd:=okBd
 obtain⟨r,oT,hT,mT,hr⟩:=C.tab
 obtain⟨hrm,kvs,hrow⟩:=hr v hv
 obtain⟨⟨oR,hoR,hdR⟩,hsound,hfull⟩:=hrow
 obtain⟨aB,hnb⟩:=C.nb
 have hkl:kvs.length≤n:=by
  refine len_le_of (n:=n) hdR.choose_spec.choose_spec.2.2.2.2 fun p hp=>?_
  obtain⟨k,hk,e,_⟩:=hsound p hp
  exact⟨k,hk,e⟩
 refine Cd.for_ (L:=L) (nms:=nmBd) (tail:=tail) Rm.hh kvs.length (fun i v h=>∃T key k x,v = .ref T∧kvs[i]?=some (k,x)∧(intKind prog w).is k key=true∧h.IsTuple T #[key,x])
  (BdJ prog w B net ld fp lf ls cn ln dc dA pA sA fA dB pB sB fB gs gt dir n s v k lim x14 Ed DA DB SB PB xsB FB kvs) ?_ ?_ ?_
 ·refine .items (.subM (.pair S hnb hd (.name O S 9 rfl rfl) (.name O S 12 rfl rfl)) (.name O S 15 rfl rfl) (S.keep _ _ hT) mT (by rw [if_pos hv])) (S.keep _ _ hoR) hdR hrm ?_
  have S1:=S.pushX { cls:= .type "dict_items",data:= .fields #[.ref (r v)]}
  exact⟨B,_,_,S1,⟨cnt,PA,SA,xsA,FA,fd,mt,x16,x17,x18,x19,x20,fun _=>False,rfl,rfl,PM.le_refl _,Q,fun j hj=>absurd hj (Nat.not_lt_zero _),hlim⟩,
   Turns.items hoR S1.keep ⟨_,Heap.get?_push_size _ rfl,rfl,rfl⟩ hdR S1.size2,fun i B' front' avs' hJ=>by cases hJ;assumption⟩
 ·rintro i v' I q PP B' front avs h1 hi ⟨T,key,kk,x,rfl,hx,hkey,hTup⟩ ⟨cnt',PA',SA',xsA',FA',fd',mt',y16,y17,y18,y19,y20,R,rfl,rfl,hle,Q',hR,hl⟩ S1
  obtain⟨x',hx',e1,oc,da,od,e2,e3,e4,e5,e6⟩:=hsound _ (List.mem_of_getElem? hx)
  dsimp only at e1 e3
  subst e1 e3
  obtain⟨tk,rfl⟩:=Value.isInt_shape hkey
  refine Tr.asg2 O Rm.hh S1 16 17 rfl rfl hTup (a1:= .int (x':Nat)) (a2:= .val (.ref da)) ⟨tk,rfl⟩ rfl fun h2 S2=>?_
  refine bdF_ok (lim:=lim+i) Rm hn hd (C.le hle) Q' hl (nt314 hn hl2 hkl hi) hx' e2 (hle _ _ e4) e5 e6 S2 fun f h' B'' cnt'' PA'' SA'' xsA'' FA'' fd'' mt'' z18 z19 z20 hf hle' S'' Q'' hl''=>?_
  have fin:ForP L nmBd ((I,q)::tail) (BdJ prog w B net ld fp lf ls cn ln dc dA pA sA fA dB pB sB fB gs gt dir n s v k lim x14 Ed DA DB SB PB xsB FB kvs (i+1)) h':=by
   refine⟨B'',_,_,S'',cnt'',PA'',SA'',xsA'',FA'',fd'',mt'',_,_,z18,z19,z20,_,rfl,rfl,PM.le_trans hle hle',Q'',fun j hj y val e=>?_,hl''⟩
   rcases Nat.lt_or_ge j i with q' | q'
   ·exact .inl (hR j q' y val e)
   ·have:j=i:=nt130 hj q'
    subst this
    rw [hx] at e
    obtain e00:=Option.some.inj e;obtain⟨e0010,rfl⟩:=Prod.mk.inj e00;obtain rfl:=Int.ofNat.inj e0010
    exact .inr rfl
  rcases hf with rfl | rfl
  ·exact fin
  ·exact fin
 ·rintro B' front avs h1 ⟨cnt',PA',SA',xsA',FA',fd',mt',y16,y17,y18,y19,y20,R,rfl,rfl,hle,Q',hR,hl⟩ S1
  refine Cd.nil (kP _ _ _ _ _ _ _ _ _ _ _ _ _ _ _ hle S1 ⟨Q'.side.full (fun w' c hw'=>?_) v,Q'.dv,Q'.low,Q'.qA,Q'.qB,Q'.meet,Q'.cA,Q'.cB,Q'.ds⟩ (nt326 hkl hl))
  have hw'':Ed v w'=some (some c):=hw'
  obtain⟨p,hp,hpe⟩:=hfull w' (by rw [hw''];rfl)
  obtain⟨j,hj⟩:=List.mem_iff_getElem?.mp hp
  obtain⟨p1,p2⟩:=p
  dsimp only at hpe
  subst hpe
  exact hR j (List.getElem?_eq_some_iff.mp hj).1 w' p2 hj
end
end
section
set_option tactic.hygienic false
open PySem PySem.W PyProof.Rows
variable [GenI]
noncomputable def bdRet:List Stmt:=fnBody (bdW.getD 4 (.Pass default))
noncomputable def undone (n:Nat) (D:NM):Nat:=(List.range n).countP fun x=>(D x).isNone
theorem countP_upd {D:NM} {v k:Nat} (hv:D v=none):∀{l:List Nat},l.Nodup→v∈l→(l.countP fun x=>(upd D v k x).isNone)+1=l.countP fun x=>(D x).isNone
 | [],_,h=>absurd h List.not_mem_nil
 | a::l,nd,h=>by
  have nd':=List.nodup_cons.mp nd
  rw [List.countP_cons,List.countP_cons]
  by_cases q:a=v
  ·subst q
   have:(l.countP fun x=>(upd D a k x).isNone)=l.countP fun x=>(D x).isNone:=by
    apply List.countP_congr
    intro x hx
    rw [upd_ne (fun e:x=a=>nd'.1 (e▸hx))]
   rw [this,upd_self,hv];rfl
  ·have hm:v∈l:=by rcases List.mem_cons.mp h with e | e;exact absurd e.symm q;exact e
   have ih:=countP_upd (k:=k) hv nd'.2 hm
   rw [upd_ne q];exact nt210 ih
theorem undone_upd {n:Nat} {D:NM} {v k:Nat} (hv:D v=none) (hn:v<n):undone n (upd D v k)+1=undone n D:=countP_upd hv List.nodup_range (List.mem_range.mpr hn)
theorem undone_le {n:Nat} {D:NM}:undone n D≤n:=by have:=List.countP_le_length (p:=fun x=>(D x).isNone) (l:=List.range n);simpa [undone] using this
noncomputable abbrev WE (Ed:Nat→Nat→Option (Option Nat)):WRel:=fun x y c=>Ed x y=some (some c)
noncomputable def flipE (E:Nat→Nat→Option (Option Nat)):Nat→Nat→Option (Option Nat):=fun v u=>E u v
structure TurnOk (B:PM) (n sA sB:Nat) (Ed:Nat→Nat→Option (Option Nat)) (DA SA:NM) (PA:Nat→Option (Option Nat)) (xsA:Array Value) (FA:List Ent) (DB SB:NM) (PB:Nat→Option (Option Nat)) (xsB:Array Value) (FB:List Ent) (fd mt:Option Nat) (cnt:Nat):Prop where
 sideA:∃v,Side n sA (WE Ed) DA SA PA FA v (fun _=>True)
 sideB:∃v,Side n sB (WE (flipE Ed)) DB SB PB FB v (fun _=>True)
 qA:QuB qBd B xsA FA
 qB:QuB qBd B xsB FB
 meet:Meet SA SB fd mt
 cA:∀e∈FA,e.2.1<cnt
 cB:∀e∈FB,e.2.1<cnt
 disj:∀x,(DA x).isSome=true→(DB x).isSome=true→False
 phase:((∀x,DA x=none)∧(∀x,DB x=none)∧(∀e∈FA,e.2.2=sA)∧∀e∈FB,e.2.2=sB)∨
  ((∀x,(DA x).isSome=true→x=sA)∧(DA sA).isSome=true∧(∀x,DB x=none)∧∀e∈FB,e.2.2=sB)∨((DA sA).isSome=true∧(DB sB).isSome=true)
structure MetOk (n sA sB:Nat) (Ed:Nat→Nat→Option (Option Nat)) (DA SA:NM) (PA:Nat→Option (Option Nat)) (DB SB:NM) (PB:Nat→Option (Option Nat)) (fd mt:Option Nat):Prop where
 some:∃d m a b p q,fd=some d∧mt=some m∧d=a+b∧m<n∧Ch sA (WE Ed) DA PA m p a∧Ch sB (WE (flipE Ed)) DB PB m q b
 lim:(∀x,(PA x).isSome=true→x<n)∧∀x,(PB x).isSome=true→x<n
 best:∀d,fd=Option.some d→∀δ,Walk (WE Ed) sA sB δ→d≤δ
theorem noWay {B n sA sB Ed DA SA PA xsA FA DB SB PB xsB FB fd mt cnt} (T:TurnOk B n sA sB Ed DA SA PA xsA FA DB SB PB xsB FB fd mt cnt) (hne:sA≠sB) (h:FA = []∨FB = []):∀δ,¬Walk (WE Ed) sA sB δ:=by
 intro δ hw
 obtain⟨vA,sA'⟩:=T.sideA
 obtain⟨vB,sB'⟩:=T.sideB
 have nA:FA = []→(DA sA).isSome=true:=fun e=>by
  cases q:DA sA with
  | some a=>rfl
  | none=>obtain⟨c,hc⟩:=sA'.has sA 0 sA'.src q;rw [e] at hc;exact absurd hc List.not_mem_nil
 have nB:FB = []→(DB sB).isSome=true:=fun e=>by
  cases q:DB sB with
  | some a=>rfl
  | none=>obtain⟨c,hc⟩:=sB'.has sB 0 sB'.src q;rw [e] at hc;exact absurd hc List.not_mem_nil
 rcases h with e | e
 ·subst e
  have h1:=sA'.none (fun _=>trivial) hw
  rcases T.phase with⟨p,_⟩ | ⟨p,_⟩ | ⟨_,p⟩
  ·rw [p] at h1;contradiction
  ·exact hne (p _ h1).symm
  ·exact T.disj _ h1 p
 ·subst e
  have h1:=sB'.none (fun _=>trivial) (W:=WE (flipE Ed)) (x:=sA) (c:=δ) hw.rev
  have h2:=nB rfl
  rcases T.phase with⟨_,p,_⟩ | ⟨_,_,p,_⟩ | ⟨p,_⟩
  ·rw [p] at h2;contradiction
  ·rw [p] at h2;contradiction
  ·exact T.disj _ p h1
section
variable {prog:Program} {w:World} {A:Around} {env:Env} {h:Heap} {X:Value→Heap→Prop} {P:Flow→Heap→Prop} {B:PM} {ms:List (Addr×OP)} {L:Addr} {nms:List Str} {avs:List AV} {pos:Pos} {K:Frag}
theorem isEmpty_of {xs:Array Value} {F:List Ent} (q:QuB qBd B xs F):(!xs.isEmpty)=decide (F≠[]):=by
 have:=q.size
 rw [Array.isEmpty]
 cases F with
 | nil=>rw [this];rfl
 | cons e r=>rw [this];rfl
theorem perm_roles {α:Type} {a b:α} {l1 l2 t:List α}:(a::(b::(l2++(l1++t)))).Perm (a::(b::(l1++(l2++t)))):= .cons _ (.cons _ (List.perm_append_comm_assoc ..))
theorem bdTest_ok {A:Around} {cd:Value} {dir n gs gt cnt:Nat} {net ld fp lp lf ls cn ln dc dA pA sA fA dB pB sB fB aA:Addr} {tail:List (Addr×OP)} {Ed:Nat→Nat→Option (Option Nat)} {DA SA DB SB:NM} {PA PB:Nat→Option (Option Nat)} {xsA xsB:Array Value} {FA FB:List Ent} {fd mt:Option Nat} {x13 x14 x15 x16 x17 x18 x19 x20:AV} {p1 p2 p3 p4 p5 p6 p7:Pos} {k1 k2:Nat}
  (hd:dir≤1) (C:BdC prog w K B L dir ld lp lf ls ln dc dA pA sA fA dB pB sB fB aA n Ed) (qA:QuB qBd B xsA FA) (qB:QuB qBd B xsB FB) (lA:FA.length≤4000) (lB:FB.length≤4000)
  (S:St B ((L,FrameO nmBd (avBd net ld fp lf ls cn ln gs gt fd mt dir x13 x14 x15 x16 x17 x18 x19 x20))::(frBd prog w n cn dc dA pA sA fA dB pB sB fB cnt DA PA SA xsA DB PB SB xsB++tail)) h):
  Et prog w A (envBd L cd) h (.BoolOp .And [.Subscript (.Name "fringe" p1) (.Constant (.int 0) k1 p2) p3,.Subscript (.Name "fringe" p4) (.Constant (.int 1) k2 p5) p6] p7) (decide (FA≠[]∧FB≠[])):=by
 have O:EnvOk (envBd L cd) L nmBd:=okBd
 have hlA:h.IsList fA xsA:=S.mem (i:=5) rfl
 have hlB:h.IsList fB xsB:=S.mem (i:=9) rfl
 have zA:(xsA.size:Int)<2 ^ 63:=by rw [qA.size];omega
 have zB:(xsB.size:Int)<2 ^ 63:=by rw [qB.size];omega
 have eA:=isEmpty_of qA
 have eB:=isEmpty_of qB
 have hd':dir=0∨dir=1:=nt75 hd
 rcases hd' with rfl | rfl
 ·refine Et.eq (.bool (.and (.list (.pair S C.f nt3 (.name O S 6 rfl rfl) .cInt) hlA zA) fun _=>.and (.list (.pair S (C.f.swap nt3) nt5 (.name O S 6 rfl rfl) .cInt) hlB zB) fun _=>.andNil)) ?_
  rw [eA,eB];simp
 ·refine Et.eq (.bool (.and (.list (.pair S (C.f.swap nt7) nt6 (.name O S 6 rfl rfl) .cInt) hlB zB) fun _=>.and (.list (.pair S C.f nt7 (.name O S 6 rfl rfl) .cInt) hlA zA) fun _=>.andNil)) ?_
  rw [eA,eB];simp [Bool.and_comm]
theorem bdTurn_ok {A:Around} {cd:Value} {dir n sA0 sB0 gs gt cnt lA lB:Nat} {net ld fp lp lf ls cn ln dc dA pA sA fA dB pB sB fB aA aB:Addr} {tail:List (Addr×OP)} {Ed:Nat→Nat→Option (Option Nat)} {DA SA DB SB:NM} {PA PB:Nat→Option (Option Nat)} {xsA xsB:Array Value} {FA FB:List Ent} {fd mt:Option Nat} {x13 x14 x15 x16 x17 x18 x19 x20:AV}
  (Rm:Room A 10 100) (hn:n≤6) (hd:dir≤1) (hne:sA0≠sB0) (C:BdC prog w K B L dir ld lp lf ls ln dc dA pA sA fA dB pB sB fB aA n Ed)
  (T:TurnOk B n sB0 sA0 (flipE Ed) DB SB PB xsB FB DA SA PA xsA FA fd mt cnt) (hFA:FA≠[]) (hlA:FA.length=lA) (hl2:lA<1000) (hl3:FB.length<1000)
  (S:St B ((L,FrameO nmBd (avBd net ld fp lf ls cn ln gs gt fd mt dir x13 x14 x15 x16 x17 x18 x19 x20))::(frBd prog w n cn dc dA pA sA fA dB pB sB fB cnt DA PA SA xsA DB PB SB xsB++tail)) h)
  (kRet:∀h' B' DA' xsA' y13 y14 y15,B.le B'→St B' ((L,FrameO nmBd (avBd net ld fp lf ls cn ln gs gt fd mt dir y13 y14 y15 x16 x17 x18 x19 x20))::(frBd prog w n cn dc dA pA sA fA dB pB sB fB cnt DA' PA SA xsA' DB PB SB xsB++tail)) h'→
   MetOk n sA0 sB0 Ed DA' SA PA DB SB PB fd mt→Tr prog w A (execs (bdRet++bdW.drop 5) (envBd L cd)) h' P X)
  (kNext:∀f h' B' cnt' DA' PA' SA' xsA' FA' fd' mt' y13 y14 y15 y16 y17 y18 y19 y20,(f = .next∨f = .cont)→B.le B'→
   St B' ((L,FrameO nmBd (avBd net ld fp lf ls cn ln gs gt fd' mt' dir y13 y14 y15 y16 y17 y18 y19 y20))::(frBd prog w n cn dc dA pA sA fA dB pB sB fB cnt' DA' PA' SA' xsA' DB PB SB xsB++tail)) h'→
   TurnOk B' n sA0 sB0 Ed DA' SA' PA' xsA' FA' DB SB PB xsB FB fd' mt' cnt'→undone n DA'*(n+1)+FA'.length+1≤undone n DA*(n+1)+lA→P f h'):
  Tr prog w A (execs (bdW.drop 1) (envBd L cd)) h P X:=by
 have O:EnvOk (envBd L cd) L nmBd:=okBd
 obtain⟨v0,sideB⟩:=T.sideA
 obtain⟨v1,sideA⟩:=T.sideB
 have sideA:Side n sA0 (WE Ed) DA SA PA FA v1 (fun _=>True):=sideA
 refine Cd.asgCall O Rm.hh (by decide) (.callName (.g O S C.gPop) (.evE (.pair S C.f hd (.name O S 6 rfl rfl) (.name O S 12 rfl rfl)) fun v0 hv0=>.evNil ⟨.builtin,?_⟩))
 have hv0':v0 = .ref fA:=hv0
 subst hv0'
 refine Tr.heappop (q:=qBd) (Rm.le (by decide) (by decide)) S (j:=5) rfl T.qB hFA (nt158 hlA hl2) fun v e ys F' h1 he S1 q1 hp hleast=>?_
 obtain⟨k,c,x⟩:=e
 have he0:=he
 obtain⟨tu,o,tk,tc,r,rfl,hB,hT,tx,hr⟩:=he
 subst hr
 have S1:St B ((L,FrameO nmBd (avBd net ld fp lf ls cn ln gs gt fd mt dir x13 x14 x15 x16 x17 x18 x19 x20))::(frBd prog w n cn dc dA pA sA fA dB pB sB fB cnt DA PA SA ys DB PB SB xsB++tail)) h1:=S1
 refine⟨_,_,_,tu,_,rfl,S1,isTuple_of (S1.keep _ _ hB) hT,[(13,"dist",.int (k:Nat) tk,.int (k:Nat)),(14,"_",.int (c:Nat) tc,.any),(15,"v",.int (x:Nat) tx,.int (x:Nat))],⟨[_,_,_],rfl,rfl⟩,rfl,fun p hp=>?_,fun h2 S2=>?_⟩
 ·rcases List.mem_cons.mp hp with rfl | hp
  ·exact⟨rfl,tk,rfl⟩
  ·rcases List.mem_cons.mp hp with rfl | hp
   ·exact⟨rfl,trivial⟩
   ·rw [List.mem_singleton.mp hp];exact⟨rfl,tx,rfl⟩
 have S2:St B ((L,FrameO nmBd (avBd net ld fp lf ls cn ln gs gt fd mt dir (.int (k:Nat)) .any (.int (x:Nat)) x16 x17 x18 x19 x20))::(frBd prog w n cn dc dA pA sA fA dB pB sB fB cnt DA PA SA ys DB PB SB xsB++tail)) h2:=S2
 have hlen:F'.length+1=lA:=by have:=hp.length_eq;rw [List.length_cons] at this;exact nt246 hlA this
 have sideA1:=sideA.perm hp.symm
 have hxn:x<n:=by
  obtain⟨a,ha,_⟩:=sideA1.ent _ (.head _)
  exact sideA.lim x a ha
 have hsub:∀e∈F',e∈FA:=fun e he=>hp.mem_iff.mpr (.tail _ he)
 have cA':∀e∈F',e.2.1<cnt:=fun e he=>T.cB e (hsub e he)
 obtain⟨oD,hoD,mD⟩:=S2.mem (i:=2) rfl
 have eD:∀pos p1 p2,Ev prog w A (envBd L cd) h2 (.Subscript (.Name "dists" p1) (.Name "direction" p2) pos) (.val (.ref dA)):=fun pos p1 p2=>.pair S2 C.d hd (.name O S2 4 rfl rfl) (.name O S2 12 rfl rfl)
 have mdA:=notMods_of S2 (j:=2) rfl
 cases hDx:DA x with
 | some a=>
  refine Cd.ifT (Et.eq (.cmp (.name O S2 15 rfl rfl) (eD _ _ _) (.inM hoD mD mdA)) (by rw [dAv_isSome,hDx];rfl)) ?_
  refine Cd.cont (kNext _ _ _ _ _ _ _ _ F' _ _ _ _ _ _ _ _ _ _ (.inr rfl) (PM.le_refl _) S2 ?_ ?_)
  rotate_left
  ·exact nt211 hlen
  refine⟨⟨v1,sideA1.skip (by rw [hDx];rfl)⟩,⟨v0,sideB⟩,q1,T.qA,T.meet.swap,cA',T.cA,fun y h1 h2=>T.disj y h2 h1,?_⟩
  rcases T.phase with⟨p1,p2,_⟩ | ⟨p1,p2,p3,_⟩ | ⟨p1,p2⟩
  ·rw [p2] at hDx;contradiction
  ·rw [p3] at hDx;contradiction
  ·exact .inr (.inr ⟨p2,p1⟩)
 | none=>
  refine Cd.ifF (Et.eq (.cmp (.name O S2 15 rfl rfl) (eD _ _ _) (.inM hoD mD mdA)) (by rw [dAv_isSome,hDx];rfl)) ?_
  refine Cd.storeM S2 (j:=2) rfl (.name O S2 13 rfl rfl) (eD _ _ _) (.name O S2 15 rfl rfl) hxn hn fun h3 S3=>?_
  rw [dAv_upd] at S3
  have S3:St B ((L,FrameO nmBd (avBd net ld fp lf ls cn ln gs gt fd mt dir (.int (k:Nat)) .any (.int (x:Nat)) x16 x17 x18 x19 x20))::(frBd prog w n cn dc dA pA sA fA dB pB sB fB cnt (upd DA x k) PA SA ys DB PB SB xsB++tail)) h3:=S3
  obtain⟨hSx,side1⟩:=sideA1.pop hDx hleast
  have low1:∀y a,upd DA x k y=some a→a≤k:=fun y a hy=>by
   by_cases q:y=x
   ·subst q;rw [upd_self] at hy;obtain rfl:=Option.some.inj hy;exact Nat.le_refl _
   ·rw [upd_ne q] at hy
    exact sideA1.low y a hy _ (.head _)
  have ph:(upd DA x k sA0).isSome=true∧((∀y,(upd DA x k y).isSome=true→y=sA0)∧(∀y,DB y=none)∧(∀e∈FB,e.2.2=sB0)∨(DB sB0).isSome=true):=by
   rcases T.phase with⟨p1,p2,p3,p4⟩ | ⟨p1,p2,p3,p4⟩ | ⟨p1,p2⟩
   ·have:x=sA0:=p4 _ (hp.mem_iff.mpr (.head _))
    subst this
    refine⟨by rw [upd_self];rfl,.inl ⟨fun y hy=>?_,p1,p3⟩⟩
    by_cases q:y=x
    ·exact q
    ·rw [upd_ne q,p2] at hy;contradiction
   ·have:x=sA0:=p4 _ (hp.mem_iff.mpr (.head _))
    subst this
    exact⟨by rw [upd_self];rfl,.inr p2⟩
   ·refine⟨?_,.inr p1⟩
    by_cases q:sA0=x
    ·rw [q,upd_self];rfl
    ·rw [upd_ne q];exact p2
  obtain⟨oE,hoE,mE⟩:=S3.mem (i:=6) rfl
  have hd2:1 - dir≤1:=nt74 hd
  have eE:∀pos p1 p2 p3 p4 k1,Ev prog w A (envBd L cd) h3 (.Subscript (.Name "dists" p1) (.BinOp (.Constant (.int 1) k1 p2) .Sub (.Name "direction" p3) p4) pos) (.val (.ref dB)):=fun pos p1 p2 p3 p4 k1=>
   .pair S3 (C.d.swap hd) hd2 (.name O S3 4 rfl rfl) (.eqI (i:=1 - (dir:Nat)) (.sub .cInt (.name O S3 12 rfl rfl)) (nt73 hd))
  have mdB:=notMods_of S3 (j:=6) rfl
  cases hDB:DB x with
  | some b=>
   refine Cd.ifT (Et.eq (.cmp (.name O S3 15 rfl rfl) (eE _ _ _ _ _ _) (.inM hoE mE mdB)) (by rw [dAv_isSome,hDB];rfl)) ?_
   refine kRet _ _ _ _ _ _ _ (PM.le_refl _) S3 ?_
   obtain⟨d,hfd,hdle⟩:=T.meet.swap.least x k b hSx (sideB.ds x b hDB)
   obtain⟨m,a,b',e1,e2,e3,e4⟩:=T.meet.swap.at_ d hfd
   obtain⟨p,hpc⟩:=side1.ch m a e2
   obtain⟨q,hqc⟩:=sideB.ch m b' e3
   refine⟨⟨d,m,a,b',p,q,hfd,e1,e4,sideA.lim m a e2,hpc,hqc⟩,⟨fun y hy=>?_,fun y hy=>?_⟩,fun d' hd' δ hw=>?_⟩
   ·rw [sideA.pd] at hy
    obtain⟨a,ha⟩:=Option.isSome_iff_exists.mp hy
    exact sideA.lim y a ha
   ·rw [sideB.pd] at hy
    obtain⟨a,ha⟩:=Option.isSome_iff_exists.mp hy
    exact sideB.lim y a ha
   ·exact meet_best side1 sideB (fun _=>trivial) T.meet.swap hd' upd_self hleast hDB hw
  | none=>
   refine Cd.ifF (Et.eq (.cmp (.name O S3 15 rfl rfl) (eE _ _ _ _ _ _) (.inM hoE mE mdB)) (by rw [dAv_isSome,hDB];rfl)) ?_
   have hun:=undone_upd (n:=n) (k:=k) hDx hxn
   refine bdScan_ok (lim:=F'.length) Rm hn hd hxn C ⟨side1,upd_self,low1,q1,T.qA,T.meet.swap,cA',T.cA,ph.1⟩ (Nat.le_refl _) (nt247 hlA hl2 hlen) S3 fun h' B' cnt' PA' SA' xsA' FA' fd' mt' y14 y16 y17 y18 y19 y20 hle S' Q' hl'=>?_
   refine kNext _ _ _ _ _ _ _ _ FA' _ _ _ _ _ _ _ _ _ _ (.inl rfl) hle S' ?_ ?_
   ·refine⟨⟨x,Q'.side⟩,⟨v0,sideB⟩,Q'.qA,Q'.qB,Q'.meet,Q'.cA,Q'.cB,fun y h1 h2=>?_,?_⟩
    ·by_cases q:y=x
     ·subst q;rw [hDB] at h2;contradiction
     ·rw [upd_ne q] at h1;exact T.disj y h2 h1
    ·rcases ph with⟨p1,⟨p2,p3,p4⟩ | p2⟩
     ·exact .inr (.inl ⟨p2,p1,p3,p4⟩)
     ·exact .inr (.inr ⟨p1,p2⟩)
   ·rw [←hun,Nat.add_mul];exact nt330 hlen hl'
end
end
section
set_option tactic.hygienic false
open PySem PySem.W PyProof.Rows
variable [GenI]
theorem MetOk.swap {n sA sB Ed DA SA PA DB SB PB fd mt} (h:MetOk n sA sB Ed DA SA PA DB SB PB fd mt):MetOk n sB sA (flipE Ed) DB SB PB DA SA PA fd mt:=by
 obtain⟨d,m,a,b,p,q,h1,h2,h3,h4,h5,h6⟩:=h.some
 exact⟨⟨d,m,b,a,q,p,h1,h2,by exact nt242 h3,h4,h6,h5⟩,⟨h.lim.2,h.lim.1⟩,fun d hd δ hw=>h.best d hd δ hw.rev⟩
structure Ro where
 (dA pA sA fA dB pB sB fB aA:Addr) (aB:Addr) (s0 s1:Nat) (E:Nat→Nat→Option (Option Nat))
noncomputable def Ro.swap (r:Ro):Ro:=⟨r.dB,r.pB,r.sB,r.fB,r.dA,r.pA,r.sA,r.fA,r.aB,r.aA,r.s1,r.s0,flipE r.E⟩
noncomputable def bdRest:List Stmt:=(fnBody sBd).drop 17
section
variable {prog:Program} {w:World} {A:Around} {env:Env} {h:Heap} {X:Value→Heap→Prop} {P:Flow→Heap→Prop} {B:PM} {ms:List (Addr×OP)} {L:Addr} {nms:List Str} {avs:List AV} {pos:Pos} {K:Frag}
noncomputable abbrev RoC (prog:Program) (w:World) (K:Frag) (B:PM) (L:Addr) (dir:Nat) (ld lp lf ls ln dc:Addr) (n:Nat) (r:Ro):Prop:=BdC prog w K B L dir ld lp lf ls ln dc r.dA r.pA r.sA r.fA r.dB r.pB r.sB r.fB r.aA n r.E
noncomputable abbrev RoF (prog:Program) (w:World) (n:Nat) (cn dc:Addr) (r:Ro):=frBd prog w n cn dc r.dA r.pA r.sA r.fA r.dB r.pB r.sB r.fB
theorem swap_st {n cn dc:Addr} {r:Ro} {cnt:Nat} {DA SA DB SB:NM} {PA PB:Nat→Option (Option Nat)} {xsA xsB:Array Value} {f:Addr×OP} {tail:List (Addr×OP)}
  (S:St B (f::(RoF prog w n cn dc r cnt DA PA SA xsA DB PB SB xsB++tail)) h):St B (f::(RoF prog w n cn dc r.swap cnt DB PB SB xsB DA PA SA xsA++tail)) h:=
 S.perm (perm_roles (a:=f) (b:=(cn,CountO dc (cnt:Nat))) (l1:=[(r.dA,MapO prog w n (dAv DA)),(r.pA,MapO prog w n (pAv PA)),(r.sA,MapO prog w n (dAv SA)),(r.fA,ListO xsA)]) (l2:=[(r.dB,MapO prog w n (dAv DB)),(r.pB,MapO prog w n (pAv PB)),(r.sB,MapO prog w n (dAv SB)),(r.fB,ListO xsB)]) (t:=tail))
inductive BdI (prog:Program) (w:World) (B:PM) (L net ld fp lf ls cn ln dc:Addr) (gs gt n:Nat) (tail:List (Addr×OP)) (r:Ro) (m:Nat) (h:Heap):Prop
 | mk (B':PM) (dir cnt:Nat) (ρ:Ro) (DA:NM) (PA:Nat→Option (Option Nat)) (SA:NM) (xsA:Array Value) (FA:List Ent) (DB:NM) (PB:Nat→Option (Option Nat)) (SB:NM) (xsB:Array Value) (FB:List Ent) (fd mt:Option Nat) (x13 x14 x15 x16 x17 x18 x19 x20:AV) (hle:B.le B') (hd:dir≤1) (hρ:(dir=0∧ρ=r)∨(dir=1∧ρ=r.swap))
   (S:St B' ((L,FrameO nmBd (avBd net ld fp lf ls cn ln gs gt fd mt dir x13 x14 x15 x16 x17 x18 x19 x20))::(RoF prog w n cn dc ρ cnt DA PA SA xsA DB PB SB xsB++tail)) h)
   (T:TurnOk B' n ρ.s0 ρ.s1 ρ.E DA SA PA xsA FA DB SB PB xsB FB fd mt cnt) (hm:m=(undone n DA+undone n DB)*(n+1)+FA.length+FB.length) (hm2:m≤200):BdI prog w B L net ld fp lf ls cn ln dc gs gt n tail r m h
theorem RoC.of {prog:Program} {w:World} {K:Frag} {B:PM} {L dir ld lp lf ls ln dc n:Nat} {r ρ:Ro} (C0:RoC prog w K B L 0 ld lp lf ls ln dc n r) (C1:RoC prog w K B L 1 ld lp lf ls ln dc n r.swap) (h:(dir=0∧ρ=r)∨(dir=1∧ρ=r.swap)):RoC prog w K B L dir ld lp lf ls ln dc n ρ∧RoC prog w K B L (1 - dir) ld lp lf ls ln dc n ρ.swap:=by
 rcases h with⟨rfl,rfl⟩ | ⟨rfl,rfl⟩
 ·exact⟨C0,C1⟩
 ·exact⟨C1,C0⟩
theorem bdLoop_ok {A:Around} {cd:Value} {dir n s t gs gt cnt:Nat} {net ld fp lp lf ls cn ln dc:Addr} {tail:List (Addr×OP)} {r:Ro} {DA SA DB SB:NM} {PA PB:Nat→Option (Option Nat)} {xsA xsB:Array Value} {FA FB:List Ent} {fd mt:Option Nat} {x13 x14 x15 x16 x17 x18 x19 x20:AV}
  (Rm:Room A 10 100) (hn:n≤6) (hne:r.s0≠r.s1) (C0:RoC prog w K B L 0 ld lp lf ls ln dc n r) (C1:RoC prog w K B L 1 ld lp lf ls ln dc n r.swap)
  (T:TurnOk B n r.s1 r.s0 (flipE r.E) DA SA PA xsA FA DB SB PB xsB FB fd mt cnt) (lA:FA.length≤10) (lB:FB.length≤10)
  (S:St B ((L,FrameO nmBd (avBd net ld fp lf ls cn ln gs gt fd mt 1 x13 x14 x15 x16 x17 x18 x19 x20))::(RoF prog w n cn dc r.swap cnt DA PA SA xsA DB PB SB xsB++tail)) h)
  (kRet:∀h' B' dir cnt D0 P0 S0 xs0 D1 P1 S1 xs1 fd mt y13 y14 y15 y16 y17 y18 y19 y20,B.le B'→dir≤1→St B' ((L,FrameO nmBd (avBd net ld fp lf ls cn ln gs gt fd mt dir y13 y14 y15 y16 y17 y18 y19 y20))::(RoF prog w n cn dc r cnt D0 P0 S0 xs0 D1 P1 S1 xs1++tail)) h'→
   MetOk n r.s0 r.s1 r.E D0 S0 P0 D1 S1 P1 fd mt→Tr prog w A (execs (bdRet++bdW.drop 5) (envBd L cd)) h' (fun f h'=>∃v,f = .ret v∧P (.ret v) h') noX)
  (kNo:∀h' B' avs ms',B.le B'→St B' ((L,FrameO nmBd avs)::(ms'++tail)) h'→(∃av:List AV,avs=av∧avs[1]?=some (.int (gs:Nat))∧avs[2]?=some (.int (gt:Nat)))→(∀δ,¬Walk (WE r.E) r.s0 r.s1 δ)→Tr prog w A (execs bdRest (envBd L cd)) h' P X):
  Tr prog w A (execs ((fnBody sBd).drop 16) (envBd L cd)) h P X:=by
 have O:EnvOk (envBd L cd) L nmBd:=okBd
 refine Cd.while_ (n:=(undone n DA+undone n DB)*(n+1)+FA.length+FB.length)
  (BdI prog w B L net ld fp lf ls cn ln dc gs gt n tail r)
  ⟨B,1,cnt,r.swap,DA,PA,SA,xsA,FA,DB,PB,SB,xsB,FB,fd,mt,x13,x14,x15,x16,x17,x18,x19,x20,PM.le_refl _,Nat.le_refl _,.inr ⟨rfl,rfl⟩,S,T,rfl,?_⟩ ?_
 ·have h1:=undone_le (n:=n) (D:=DA)
  have h2:=undone_le (n:=n) (D:=DB)
  have:(undone n DA+undone n DB)*(n+1)≤12*7:=Nat.mul_le_mul (nt273 hn h1 h2) (nt92 hn)
  exact nt263 lA lB this
 rintro m PP h1 ⟨B',dir,cnt,ρ,DA,PA,SA,xsA,FA,DB,PB,SB,xsB,FB,fd,mt,x13,x14,x15,x16,x17,x18,x19,x20,hle,hd,hρ,S1,T1,hm,hm2⟩
 have ⟨Cρ,Cσ⟩:=RoC.of (C0.le hle) (C1.le hle) hρ
 refine Et.tr (bdTest_ok hd Cρ T1.qA T1.qB (nt305 hm hm2) (nt307 hm hm2) S1) ?_
 by_cases hb:FA≠[]∧FB≠[]
 ·rw [decide_eq_true hb]
  show Tr prog w A (execs bdW (envBd L cd)) h1 _ noX
  refine Cd.assignE O S1 12 rfl (av:= .int ((1 - dir:Nat):Int)) (.eqI (i:=1 - (dir:Nat)) (.sub .cInt (.name O S1 12 rfl rfl)) (nt73 hd)) fun h2 S2=>?_
  have S2:St B' ((L,FrameO nmBd (avBd net ld fp lf ls cn ln gs gt fd mt (1 - dir) x13 x14 x15 x16 x17 x18 x19 x20))::(RoF prog w n cn dc ρ cnt DA PA SA xsA DB PB SB xsB++tail)) h2:=S2
  have S3:=swap_st S2
  have hne':ρ.s1≠ρ.s0:=hρ.elim (fun e=>e.2▸hne.symm) fun e=>e.2▸hne
  refine bdTurn_ok (sA0:=ρ.s1) (sB0:=ρ.s0) (Ed:=ρ.swap.E) (lA:=FB.length) (lB:=0) (aB:=0) Rm hn (nt74 hd) hne' Cσ T1 hb.2 rfl (nt306 hm hm2) (nt304 hm hm2) S3 ?_ ?_
  ·intro h' B'' DA' xsA' y13 y14 y15 hle' S' M'
   refine(kRet h' B'' (1 - dir) cnt (if dir=1 then DA' else DA) (if dir=1 then PB else PA) (if dir=1 then SB else SA) (if dir=1 then xsA' else xsA) (if dir=1 then DA else DA') (if dir=1 then PA else PB) (if dir=1 then SA else SB) (if dir=1 then xsA else xsA') fd mt y13 y14 y15 x16 x17 x18 x19 x20 (PM.le_trans hle hle') (nt74 hd) ?_ ?_).mono (fun f h' ⟨v,e,p⟩=>by subst e;exact p) fun _ _ x=>x
   ·rcases hρ with⟨rfl,rfl⟩ | ⟨rfl,rfl⟩
    ·exact swap_st (r:=ρ.swap) S'
    ·exact S'
   ·rcases hρ with⟨rfl,rfl⟩ | ⟨rfl,rfl⟩
    ·exact M'.swap
    ·exact M'
  ·intro f h' B'' cnt' DA' PA' SA' xsA' FA' fd' mt' y13 y14 y15 y16 y17 y18 y19 y20 hf hle' S' T' hlt
   have fin:WhP (BdI prog w B L net ld fp lf ls cn ln dc gs gt n tail r) m h':=by
    have e1:(undone n DA'+undone n DA)*(n+1)+FA'.length+FA.length<m:=by
     rw [hm,Nat.add_mul,Nat.add_mul];exact nt349 hlt
    refine⟨_,e1,B'',1 - dir,cnt',ρ.swap,DA',PA',SA',xsA',FA',DA,PA,SA,xsA,FA,fd',mt',y13,y14,y15,y16,y17,y18,y19,y20,PM.le_trans hle hle',by exact nt74 hd,?_,S',T',rfl,by exact nt352 hm hm2 e1⟩
    rcases hρ with⟨rfl,rfl⟩ | ⟨rfl,rfl⟩
    ·exact .inr ⟨rfl,rfl⟩
    ·exact .inl ⟨rfl,rfl⟩
   rcases hf with rfl | rfl
   ·exact fin
   ·exact fin
 ·rw [decide_eq_false hb]
  have hno:∀δ,¬Walk (WE r.E) r.s0 r.s1 δ:=by
   have hem:FA = []∨FB = []:=by
    rcases Classical.em (FA = [])with q | q
    ·exact .inl q
    ·exact .inr (Classical.byContradiction fun z=>hb ⟨q,z⟩)
   rcases hρ with⟨rfl,rfl⟩ | ⟨rfl,rfl⟩
   ·exact noWay T1 hne hem
   ·exact fun δ hw=>noWay T1 hne.symm hem δ hw.rev
  exact kNo h1 B' _ _ hle S1 ⟨_,rfl,rfl,rfl⟩ hno
end
end
section
set_option tactic.hygienic false
open PySem PySem.W PyProof.Rows
variable [GenI]
theorem St.addM {B:PM} {ms:List (Addr×OP)} {h:Heap} {a:Addr} {o:Obj} {P:OP} (S:St B ms h) (hn:a∉ms.map (·.1)) (hB:B a=none) (ho:h.get? a=some o) (hP:P o) (hl:2<a):St B ((a,P)::ms) h:=
 ⟨S.keep,fun p hp=>by rcases List.mem_cons.mp hp with rfl | hp;exact⟨o,ho,hP⟩;exact S.own p hp,fun p hp=>by rcases List.mem_cons.mp hp with rfl | hp;exact hB;exact S.off p hp,
  by rw [List.map_cons];exact List.nodup_cons.mpr ⟨hn,S.nd⟩,fun p hp=>by rcases List.mem_cons.mp hp with rfl | hp;exact hl;exact S.low p hp,S.st2⟩
noncomputable def LiO (xs:List Value):OP:=fun o=>∃n,o = { cls:= .type "list",data:= .seq xs.toArray n}
theorem LiO.list {xs:List Value} {o:Obj} (h:LiO xs o):ListO xs.toArray o:=by obtain⟨n,rfl⟩:=h;exact⟨rfl,n,rfl⟩
theorem nolen_lri:typeLookup (.type "list_reverseiterator") "__len__" =pure none:=by rw [typeLookup_type,builtinLookup_eq_fast];kernel_rfl
theorem hint_lri:typeLookup (.type "list_reverseiterator") "__length_hint__" =pure (some (.builtin "list_reverseiterator.__length_hint__")):=by rw [typeLookup_type,builtinLookup_eq_fast];kernel_rfl
section
variable {prog:Program} {w:World} {A:Around} {E:Value→Shared→Prop} {s:Shared}
variable {I:Addr} {fp wr:List Addr} {G:Array GenState→Array GenState→Prop} {n:Nat} {P:Nat→Value→Prop} {St:Nat→Shared→Prop}
theorem call_list_rev {Q:Value→Shared→Prop} (W:WalksS prog w A.in1.in1 I fp wr G n P St) (hT:∀i s,St i s→s.TypeIs (.ref I) "list_reverseiterator") (hst:St 0 s) (hfp:∀b∈fp,b<s.heap.objs.size) (hI:I∈fp)
  (hQ:∀s' acc' c',Moved (s.heap.objs.size::wr) G { s with heap:=s.heap.push { cls:= .type "list",data:= .seq #[]}} s'→
   s'.heap.get? s.heap.objs.size=some { cls:= .type "list",dict:=none,data:= .seq acc' c',slots:= #[]}→ItemsOf P acc' n→Q (.ref s.heap.objs.size) s') (hn:n≤sizeLine):
  wpAny (model prog w) A (call (.type "list") [.ref I]) Q E s:=by
 have hSf:s.heap.objs.size∉fp:=fun hm=>Nat.lt_irrefl _ (hfp _ hm)
 have hSI:s.heap.objs.size≠I:=fun e=>hSf (e▸hI)
 refine callType_codes (Q₁:=fun obj s₁=>obj = .ref s.heap.objs.size∧s₁ = { s with heap:=s.heap.push { cls:= .type "list",data:= .seq #[]}}) PySem.F.called_list (PySem.F.typeCall_list_1 _) PySem.F.entry_list_init
  (code_list_new _ ⟨rfl,rfl⟩) fun obj s₁ h₁=>?_
 obtain⟨rfl,rfl⟩:=h₁
 have hS:(s.heap.push { cls:= .type "list",data:= .seq #[]}).get? s.heap.objs.size=some { cls:= .type "list",data:= .seq #[]}:=Heap.get?_push_size _ rfl
 refine⟨⟨_,hS,rfl⟩,PySem.F.args_list_init_2 _ _,?_⟩
 have hst1:=W.frame 0 s (s.heap.push { cls:= .type "list",data:= .seq #[]}) s.toks hst (Nat.le_refl _) fun b _ o e=>Heap.get?_push_of_some _ e
 show wpAny _ A.in1.in1 (do let old ←Builtin.List.listItems (.ref s.heap.objs.size);Builtin.List.listUpdate (.ref s.heap.objs.size) (fun _=> #[]);letGo old.toList.reverse;Builtin.List.listExtendWith (.ref s.heap.objs.size) (.ref I) .none) _ _ _
 refine wpAny_bind ?_
 unfold Builtin.List.listItems
 refine wpAny_bind (wpAny_seqItems hS rfl (wpAny_pure ?_))
 show wpAny _ A.in1.in1 (updateSeq s.heap.objs.size (fun _=> #[]) >>= fun _=>letGo (#[]:Array Value).toList.reverse >>= fun _=>Builtin.List.listExtendWith (.ref s.heap.objs.size) (.ref I) .none) _ _ _
 refine wpAny_bind (wpAny_updateSeq hS rfl ?_)
 have hS₂:=Heap.get?_update_self (Obj.mapSeq (fun _=>(#[]:Array Value))) hS rfl
 have oth:∀b o,b≠s.heap.objs.size→(s.heap.push { cls:= .type "list",data:= .seq #[]}).get? b=some o→((s.heap.push { cls:= .type "list",data:= .seq #[]}).update s.heap.objs.size (Obj.mapSeq (fun _=>(#[]:Array Value)))).get? b=some o:=
  fun b o hb e=>(Heap.get?_update_other _ _ (Ne.symm hb)).trans e
 refine wpAny_bind (wpAny_letGo ?_)
 have hst2:=W.frame 0 _ ((s.heap.push { cls:= .type "list",data:= .seq #[]}).update s.heap.objs.size (Obj.mapSeq (fun _=>(#[]:Array Value)))) s.toks hst1 (Nat.le_refl _) fun b hb o e=>oth b o (fun h=>hSf (h▸hb)) e
 have h1:Builtin.List.listSameRef (.ref s.heap.objs.size) (.ref I)=false:=by simp [Builtin.List.listSameRef,hSI]
 unfold Builtin.List.listExtendWith
 refine wpAny_bind (wpAny_typeOf (hT 0 _ hst2) ?_)
 rw [if_neg (by rw [h1];decide)]
 refine wpAny_bind (W.self 0 _ _ _ hst2 ?_)
 refine wpAny_bind (wpAny_holding ?_)
 unfold Builtin.List.listLengthHint
 refine wpAny_bind (wpAny_specialOf (hT 0 _ hst2) nolen_lri ?_)
 show wpAny _ A.in1.in1 (specialOf (Value.ref I) (Str.ofString "__length_hint__") >>= _) _ _ _
 refine wpAny_bind (wpAny_specialOf (hT 0 _ hst2) hint_lri ?_)
 (generalize hid:("list_reverseiterator.__length_hint__" :String)=id0;(fail_if_success (clear hid id0));wp_delta;rw [show splitId id0=some ("list_reverseiterator","__length_hint__")from by subst hid;decide +kernel];subst hid)
 refine wpAny_bind (wpAny_isInstance (b:=true) (hT 0 _ hst2) (by rw [isSubtype_type];kernel_rfl) ?_)
 refine wpAny_pure ?_
 rw [if_neg (by decide)]
 refine wpAny_pure ⟨plainId_quiet PySem.F.plain_extend_loop _,codeAny_extend_loopS W hn _ hSf _ n 0 _ _ _ rfl (Nat.zero_le _) hst2 hS₂ (ItemsOf.nil P) fun s' acc' c' hm hS' hacc=>?_⟩
 exact⟨rfl,hQ s' acc' c' (Moved.trans W.gtrans ((Moved.refl W.grefl).then_heap (Nat.le_refl _) fun b o hb e=>oth b o (fun h=>hb (h▸List.mem_cons_self)) e) hm) hS' hacc⟩
end
section
variable {prog:Program} {w:World} {A:Around} {env:Env} {h:Heap} {X:Value→Heap→Prop} {P:Value→Heap→Prop} {B:PM} {ms:List (Addr×OP)} {L:Addr} {nms:List Str} {avs:List AV} {pos:Pos} {K:Frag}
theorem Tr.listRev {it l:Addr} {xs:List Value} (hh:A.handled=none) (S:St B ms h) (hit:h.get? it=some (revObj l ((xs.toArray.size:Int) - 1))) (hl:h.IsList l xs.toArray) (hne:l≠it) (hnm:it∉ms.map (·.1)) (hnB:B it=none) (hz:xs.length≤100)
  (k:∀a h',St B ((a,LiO xs.reverse)::ms) h'→P (.ref a) h'):Tr prog w A (call (.type "list") [.ref it]) h P X:=by
 intro g d tk os Q E hg hq he
 have W:=(Walks.listRev (prog:=prog) (w:=w) (A:=A.in1.in1) hh it l hne xs.toArray).toS
 refine call_list_rev (s:=⟨h,g,d,tk,os⟩) W (fun i s hs=>hs.2.1.typeIs) ⟨Nat.zero_le _,⟨_,hit,rfl,?_⟩,hl⟩ (fun b hb=>?_) (.head _) (fun s' acc' c' hm hS' hacc=>?_) (by rw [sizeLine_eq];simp;exact nt80 hz)
 ·show Data.fields #[.ref l,rawInt ((xs.toArray.size:Int) - 1)] =_
  rw [show(xs.toArray.size:Int) - 1 - ((0:Nat):Int)=(xs.toArray.size:Int) - 1 from by simp]
 ·rcases List.mem_cons.mp hb with rfl | hb
  ·exact Heap.lt_size hit
  ·rw [List.mem_singleton.mp hb];obtain⟨o,ho,_⟩:=hl;exact Heap.lt_size ho
 ·obtain⟨h',g',d',tk',os'⟩:=s'
  have e1:g'=g:=hm.gens
  have e2:d'=d:=hm.drawn
  have e3:os'=os:=hm.os
  subst e1 e2 e3
  have hrev:acc'=xs.reverse.toArray:=by
   apply Array.ext_getElem?
   intro i
   by_cases hi:i<acc'.size
   ·have:=hacc.2 i acc'[i] (by simp [hi])
    rw [Array.getElem?_eq_getElem hi,←this]
    have hs:=hacc.1
    simp at hs ⊢
    rw [List.getElem?_reverse (nt229 hi hs)]
   ·rw [Array.getElem?_eq_none (nt194 hi)]
    have hs:=hacc.1
    simp at hs ⊢
    exact nt286 hi hs
  subst hrev
  have S1:=S.pushM (o:={ cls:= .type "list",data:= .seq #[]}) (P:=fun _=>True) trivial
  have hnew:h.objs.size≠it:=Nat.ne_of_gt (Heap.lt_size hit)
  have hnm2:=S.notMs_of_none (St.push_none h)
  have hnB2:=S.notB_of_none (St.push_none h)
  have S2:St B ((h.objs.size,LiO xs.reverse)::ms) h':=by
   refine St.addM (S.ext' fun b o hb e=>hm.heap b o (fun hmem=>?_) (Heap.get?_push_of_some _ e)) hnm2 hnB2 hS' ⟨c',rfl⟩ S.size2
   rcases List.mem_cons.mp hmem with q | q
   ·rcases hb with⟨o',hb⟩ | hb
    ·rw [q,hnB2] at hb;contradiction
    ·exact hnm2 (q▸hb)
   ·have q:=List.mem_singleton.mp q
    rcases hb with⟨o',hb⟩ | hb
    ·rw [q,hnB] at hb;contradiction
    ·exact hnm (q▸hb)
  exact hq _ _ _ _ hg (k _ _ S2)
theorem slot_append':Slot "list" "append" "list.append" :=PySem.F.slot_list_append
theorem Cd.append {e o:PySem.Expr} {ap:Pos} {a:Addr} {xs:List Value} {j:Nat} {rest:List Stmt} {p2:Pos} {P:Flow→Heap→Prop} {av:AV} (S:St B ms h) (hj:ms[j]?=some (a,LiO xs)) (ho:Ev prog w A env h o (.val (.ref a))) (he:Ev prog w A env h e av) (hz:xs.length≤100)
  (k:∀v h',av.ok v→St B (ms.set j (a,LiO (xs++[v]))) h'→Tr prog w A (execs rest env) h' P X)
  (hbase:attributeBase o "append" env (eval o env)=eval o env:=by rfl) (hline:(ap.endLine == p2.line)=true:=by rfl) (hn:StarE [e] env:=by rfl) (hi:interactive env=false:=by rfl) (hs:swapsWith (.Call (.Attribute o "append" ap) [e] [] p2) none pos.line env=pure false:=by rfl):
  Tr prog w A (execs (.Expr (.Call (.Attribute o "append" ap) [e] [] p2) pos::rest) env) h P X:=by
 obtain⟨ob,hob,nn,rfl⟩:=S.mem hj
 refine Cd.expr (.callMeth ho (.builtin (T:= "list") (id:= "list.append") (fun g d tk os=>⟨_,hob,rfl⟩) PySem.F.plainAttrs_list PySem.F.slot_list_append PySem.F.type_list_append (fun a' e'=>by obtain rfl:=Value.ref.inj e';exact⟨_,hob,rfl⟩)) (.evE he fun v hv=>.evNil ⟨.builtin,?_⟩) hbase rfl hline hn) hi hs
 intro g d tk os Q E hg hq hE
 refine wpAny_list_append_plain (s:=⟨h,g,d,tk,os⟩) (items:=xs.toArray) ⟨_,hob⟩ (fun h' hl hs'=>?_) (by rw [sizeLine_eq];simp;exact nt80 hz)
 obtain⟨n',ho'⟩:=hl
 exact hq _ _ _ _ hg (k v h' hv (S.upd hj hs' ho' ⟨n',by simp⟩))
theorem Tr.addLists {l l':Addr} {xs ys:List Value} {o o':Obj} (S:St B ms h) (h1:h.get? l=some o) (h2:LiO xs o) (h3:h.get? l'=some o') (h4:LiO ys o') (hz:xs.length+ys.length≤100)
  (k:∀a h',St B ((a,LiO (xs++ys))::ms) h'→P (.ref a) h'):Tr prog w A (binaryOp .Add (.ref l) (.ref l')) h P X:=by
 obtain⟨n,rfl⟩:=h2
 obtain⟨n',rfl⟩:=h4
 intro g d tk os Q E hg hq he
 refine PySem.P.add_list (s:=⟨h,g,d,tk,os⟩) h1 h3 ?_ (by rw [sizeLine_eq];simp;exact nt124 hz)
 refine hq _ _ _ _ hg (k _ _ (S.pushM (o:={ cls:= .type "list",data:= .seq (xs.toArray++ys.toArray)}) ⟨0,by simp⟩))
end
end
section
open PySem PySem.W PyProof.Rows
variable [GenI]
noncomputable def Kept (B:PM) (T:Heap→Prop):Prop:=∀h:Heap,(∀a o,B a=some o→h.get? a=some o)→T h
theorem Kept.le {B B':PM} {T} (k:Kept B T) (h:B.le B'):Kept B' T:=fun H hk=>k H fun a o e=>hk a o (h a o e)
structure NestB (B:PM) (c P:Addr):Prop where
 code:Kept B fun h=>CodeHd h c P
 main:∃mg,Kept B fun h=>h.Ns mainGlobals mg∧h.BuiltinsAt mg P
theorem NestB.le {B B':PM} {c P} (n:NestB B c P) (h:B.le B'):NestB B' c P:=⟨n.code.le h,n.main.imp fun mg k=>Kept.le k h⟩
noncomputable def Tab0:OP:=fun o=>o=tabObj #[]
noncomputable def TabG:OP:=fun o=>∃ps,o=tabObj ps
inductive CodeB (B:PM) (cd:Value) (q:Str):Prop
 | mk (c o vs t) (f1:cd = .ref c) (f2:B c=some o) (f3:o.data = .fields vs) (f4:vs[1]?=some (.str q t)):CodeB B cd q
theorem CodeB.le {B B':PM} {cd q} (k:CodeB B cd q) (h:B.le B'):CodeB B' cd q:=by
 obtain⟨c,o,vs,t,e,e1,r,r'⟩:=k;exact⟨c,o,vs,t,e,h _ _ e1,r,r'⟩
section
variable {B:PM} {ms:List (Addr×OP)} {h h':Heap}
theorem St.split {i:Nat} {p:Addr×OP} (e:ms[i]?=some p) (q:Addr×OP):ms=ms.take i++p::ms.drop (i+1)∧ms.set i q=ms.take i++q::ms.drop (i+1):=by
 obtain⟨hl,he⟩:=List.getElem?_eq_some_iff.mp e
 refine⟨?_,?_⟩
 ·rw [←he,List.getElem_cons_drop,List.take_append_drop]
 ·rw [List.set_eq_take_append_cons_drop,if_pos hl]
theorem St.updE (S:St B ms h) {i:Nat} {a:Addr} {P P':OP} {o':Obj} (e:ms[i]?=some (a,P)) (hs:∀b o,b≠a→h.get? b=some o→h'.get? b=some o) (ho:h'.get? a=some o') (hP:P' o'):St B (ms.set i (a,P')) h':=by
 obtain⟨e1,e2⟩:=St.split e (a,P')
 rw [e2]
 rw [e1] at S
 exact St.updMid S hs ho hP
theorem St.addB (S:St B ms h) {a:Addr} {o:Obj} (hn:a∉ms.map (·.1)) (ho:h.get? a=some o):St (B.put a o) ms h:=by
 have st2':∃o',(B.put a o) cStatics=some o':=by
  obtain⟨o2,h2⟩:=S.st2
  unfold PM.put
  by_cases q:cStatics=a
  ·exact⟨o,if_pos q⟩
  ·exact⟨o2,(if_neg q).trans h2⟩
 refine⟨fun b o' e=>?_,S.own,fun p hp=>?_,S.nd,S.low,st2'⟩
 ·unfold PM.put at e
  split at e
  ·rename_i q;subst q;obtain rfl:=Option.some.inj e;exact ho
  ·exact S.keep b o' e
 ·unfold PM.put
  rw [if_neg fun(q:p.1=a)=>hn (q▸List.mem_map_of_mem hp)]
  exact S.off p hp
end
section
variable {prog:Program} {w:World} {A:Around} {env:Env} {h:Heap} {X:Value→Heap→Prop} {B:PM} {ms:List (Addr×OP)} {L:Addr} {nms:List Str} {avs:List AV} {pos:Pos} {K:Frag}
theorem Cd.def_ {name:Str} {params:Arguments} {body rest:List Stmt} {scope:Scope} {c P:Addr} {clos:List (Str×Addr)} {Q:Flow→Heap→Prop} (O:EnvOk env L nms) (hcode:env.code = .ref c) (N:NestB B c P) (S:St B ((L,FrameO nms avs)::ms) h) {j:Nat} (hj:ms[j]?=some (P,Tab0)) (i:Nat) (hx:nms[i]?=some name)
  (hcl:closureFor scope env=pure clos) (hnd:nms.Nodup)
  (k:∀f B' c' ctv doc pm h2,B.le B'→B' f=some (fnMade name (qualnameIn env name name) params body scope clos doc pm c' ctv)→CodeB B' (.ref c') (qualnameIn env name name)→
   St B' ((L,FrameO nms (avs.set i (.val (.ref f))))::ms.set j (P,TabG)) h2→Tr prog w A (execs rest env) h2 Q X)
  (hd0:params.defaults = []:=by rfl) (hk0:params.kw_defaults = []:=by rfl) (ha:annTrees params none env = []:=by rfl):
  Tr prog w A (execs (.FunctionDef name params body [] none [] scope none name pos::rest) env) h Q X:=by
 intro g d tk os Q' E hg hq he
 have hPo:=S.mem (i:=j+1) (by rw [List.getElem?_cons_succ];exact hj)
 obtain⟨oP,hP,rfl⟩:=hPo
 obtain⟨mg,hmain⟩:=N.main
 obtain⟨hgs,hb⟩:=hmain h S.keep
 have hgP:mainGlobals≠P:=fun q=>by
  obtain⟨o,es,ep,e,hd,_⟩:=hgs
  rw [q,hP] at e;obtain rfl:=Option.some.inj e;contradiction
 refine wpAny_execs_cons (nestDef_K hd0 hk0 ha (makeFunction_K (s:=⟨h,g,d,tk,os⟩) (mg:=mg) hcl O.glob hgs hcode (N.code h S.keep) hP trivial rfl hgP hb fun c' ctv doc h' tk' hx' hge hlt hrec htb=>?_))
 obtain⟨c₂,oc,vs,t,e2,hoc,hd,hv⟩:=hrec
 obtain rfl:=Value.ref.inj e2
 have S1:St B ((L,FrameO nms avs)::ms.set j (P,TabG)) h':=S.updE (i:=j+1) (P':=TabG) (by rw [List.getElem?_cons_succ];exact hj) (fun b o hb e=>hx' b o hb e) htb ⟨_,rfl⟩
 have cnone:h.get? c'=none:=by
  cases q:h.get? c' with
  | none=>rfl
  | some o=>exact absurd (Heap.lt_size q) (Nat.not_lt.mpr hge)
 have S2:=S1.addB (a:=c') (o:=oc) (fun hm=>by
  have hm':c'∈((L,FrameO nms avs)::ms).map (·.1):=by
   rw [List.map_cons,List.map_set] at hm
   rw [List.map_cons]
   rcases List.mem_cons.mp hm with q | q
   ·exact List.mem_cons.mpr (.inl q)
   ·refine List.mem_cons.mpr (.inr ?_)
    have e1:(ms.map (·.1)).set j P=ms.map (·.1):=by
     obtain⟨hl,he⟩:=List.getElem?_eq_some_iff.mp hj
     apply List.ext_getElem
     ·simp
     ·intro a h1 h2
      rw [List.getElem_set]
      split
      ·rename_i hja;subst hja;simp [he]
      ·rfl
    rw [e1] at q;exact q
  exact S.notMs_of_none cnone hm') hoc
 have hle1:B.le (B.put c' oc):=PM.le_put (S.notB_of_none cnone)
 have S3:=S2.pushB (o:=fnMade name (qualnameIn env name name) params body scope clos doc ((mg "__name__").getD .none) c' ctv)
 have hle2:=PM.le_put (o:=fnMade name (qualnameIn env name name) params body scope clos doc ((mg "__name__").getD .none) c' ctv) (S2.notB_of_none (St.push_none h'))
 refine store_at O S3 hx (av:= .val (.ref h'.objs.size)) rfl hnd fun h4 tk4 S4=>?_
 exact k _ _ c' ctv doc _ h4 (PM.le_trans hle1 hle2) PM.put_self ⟨c',oc,vs,t,rfl,hle2 _ _ PM.put_self,hd,hv⟩ S4 g d tk4 os Q' E hg hq he
theorem Tc.callFd {a:Addr} {o:Obj} {fd:FuncData} {body:List Stmt} {pos:List Value} {kw:List (Str×Value)} {binds:List (Str×Value)} {P:Value→Heap→Prop} {d u:Nat} (R:Room A (d+1) (u+3)) (ho:B a=some o) (hdata:o.data = .func fd) (hcd:CodeB B fd.code fd.qualname) (hl:NoLim B) (S:St B ms h)
  (hbody:fd.body = .stmts body) (hb:∀s',s'.heap=h→BindsTo s' fd ⟨pos,kw⟩ binds) (nms:List Str) (avs:List AV) (hf:Fits nms avs fun x=>binds.reverse.lookup x) (hloc:∀x∈binds,fd.scope.names.lookup x.1=some .local) (hcell:∀x∈fd.scope.names,x.2≠ .cell)
  (k:∀L h1 A',Room A' d u→St B ((L,FrameO nms avs)::ms) h1→Tr prog w A' (execs body (callEnv fd L a)) h1 (fun f h2=>P (match f with | .ret v=>v | _=>.none) h2) noX)
  (hco:fd.scope.isCoroutine=false:=by rfl) (hgen:fd.scope.isGenerator=false:=by rfl) (hk:fd.scope.kind = .function:=by rfl):
  Tc prog w A (.call (.ref a) ⟨pos,kw⟩) h P X:=by
 intro g dr tk os Q E hg hq he
 obtain⟨c,oc,vs,t,e1,e2,e3,e4⟩:=hcd
 obtain⟨oS,mc,hS,hSn,hSl⟩:=hl
 refine codeAny_call_def (fd:=fd) (body:=body) (binds:=binds) (by have:=R.dp;exact nt204 this) (S.keep _ _ ho) hdata ⟨mc,ns_iff.mpr ⟨oS,S.keep _ _ hS,hSn⟩,hSl⟩ ⟨c,oc,vs,t,e1,S.keep _ _ e2,e3,e4⟩ hbody (hb _ rfl) hcell hloc (fun h₁ hns hk₁=>?_) hco hgen hk
 obtain⟨oL,hoL,hno⟩:=ns_iff.mp hns
 have S1:=S.newM (P:=FrameO nms avs) (St.push_none h) hk₁ hoL ⟨_,hno,hf⟩ S.size2
 refine k h.objs.size h₁ (A.deeper (callEnv fd h.objs.size a)) R.deeper S1 g dr _ os _ _ hg (fun f h2 g2 tk2 hg2 p=>?_) (fun _ _ _ _ _ q=>q.elim)
 exact hq _ _ _ _ hg2 p
end
end
section
set_option tactic.hygienic false
open PySem PySem.W PyProof.Rows
variable [GenI]
inductive Ints:List Value→List Nat→Prop
 | nil:Ints [] []
 | cons {v:Value} {vs:List Value} {k:Nat} {ks:List Nat} (h:∃t,v = .int (k:Nat) t) (r:Ints vs ks):Ints (v::vs) (k::ks)
theorem Ints.append {vs ws:List Value} {ks ls:List Nat} (h:Ints vs ks) (h':Ints ws ls):Ints (vs++ws) (ks++ls):=by
 induction h with
 | nil=>exact h'
 | cons h r ih=>exact .cons h ih
theorem Ints.reverse {vs:List Value} {ks:List Nat} (h:Ints vs ks):Ints vs.reverse ks.reverse:=by
 induction h with
 | nil=>exact .nil
 | cons h r ih=>rw [List.reverse_cons,List.reverse_cons];exact ih.append (.cons h .nil)
theorem Ints.length {vs:List Value} {ks:List Nat} (h:Ints vs ks):vs.length=ks.length:=by
 induction h with
 | nil=>rfl
 | cons h r ih=>exact congrArg (· +1) ih
theorem Ints.get {vs:List Value} {ks:List Nat} {i k:Nat} (h:Ints vs ks) (e:ks[i]?=some k):∃t,vs[i]?=some (.int (k:Nat) t):=by
 induction h generalizing i with
 | nil=>exact nomatch e
 | cons h r ih=>
  cases i with
  | zero=>obtain rfl:=Option.some.inj e;obtain⟨t,rfl⟩:=h;exact⟨t,rfl⟩
  | succ i=>exact ih e
inductive Rem (Pm:Nat→Option (Option Nat)):Option Nat→List Nat→Prop where
 | nil:Rem Pm none []
 | cons {v nx r}:Pm v=some nx→Rem Pm nx r→Rem Pm (some v) (v::r)
theorem Ch.rem {s W D Pm x p a} (h:Ch s W D Pm x p a):Rem Pm (some x) p:=by
 induction h with
 | base e=>exact .cons e .nil
 | step e _ _ _ ih=>exact .cons e ih
theorem Rem.uniq {Pm} {c:Option Nat} {r r':List Nat} (h:Rem Pm c r) (h':Rem Pm c r'):r=r':=by
 induction h generalizing r' with
 | nil=>cases h';rfl
 | cons e _ ih=>
  cases h' with
  | cons e' h''=>rw [e] at e';obtain rfl:=Option.some.inj e';rw [ih h'']
theorem Rem.tail {Pm} {c:Option Nat} {r:List Nat} {v:Nat} (h:Rem Pm c r) (hv:v∈r):∃r',Rem Pm (some v) r'∧r'.length≤r.length:=by
 induction h with
 | nil=>exact absurd hv List.not_mem_nil
 | cons e h ih=>
  rcases List.mem_cons.mp hv with rfl | hv
  ·exact⟨_,.cons e h,Nat.le_refl _⟩
  ·obtain⟨r',h',hl⟩:=ih hv
   exact⟨r',h',by rw [List.length_cons];exact nt187 hl⟩
theorem Rem.nodup {Pm} {c:Option Nat} {r:List Nat} (h:Rem Pm c r):r.Nodup:=by
 induction h with
 | nil=>exact .nil
 | @cons v nx r e h ih=>
  refine List.nodup_cons.mpr ⟨fun hv=>?_,ih⟩
  obtain⟨r',h',hl⟩:=h.tail hv
  have:=h'.uniq (.cons e h)
  subst this
  simp at hl
  exact nt52 hl
theorem Rem.lim {Pm} {c:Option Nat} {r:List Nat} {n:Nat} (h:Rem Pm c r) (hn:∀x,(Pm x).isSome=true→x<n):r.length≤n:=by
 have h1:∀x∈r,x∈List.range n:=by
  induction h with
  | nil=>intro x hx;exact absurd hx List.not_mem_nil
  | cons e _ ih=>
   intro x hx
   rcases List.mem_cons.mp hx with rfl | hx
   ·exact List.mem_range.mpr (hn _ (by rw [e];rfl))
   ·exact ih x hx
 have:=nodup_len h.nodup h1
 simpa using this
noncomputable def sPath:Stmt:=(fnBody sBd).getD 6 (.Pass default)
noncomputable abbrev nmPath:List Str:=["curr","direction","ret"]
noncomputable def qPath:Str:= "bidirectional_dijkstra" ++ ".<locals>." ++ "path"
noncomputable abbrev fdPath (q:Str) (c0:Addr) (doc pm:Value) (c':Addr) (ctv:Value):FuncData:=fnX (fnName sPath) q (fnParams sPath) (fnBody sPath) (fnScope sPath) [("preds",c0)] .none .none doc pm none (.ref c') ctv
theorem noCellPath:∀x∈(fnScope sPath).names,x.2≠ .cell:=by decide +kernel
theorem okPath {q:Str} {c0 c':Addr} {doc pm ctv:Value} {L a:Addr}:EnvOk (callEnv (fdPath q c0 doc pm c' ctv) L a) L nmPath:=
 ⟨rfl,rfl,(by decide +kernel:(nmPath.all fun x=>decide ((fnScope sPath).names.lookup x=some .local))=true),rfl,rfl⟩
section
variable {prog:Program} {w:World} {A:Around} {env:Env} {h:Heap} {X:Value→Heap→Prop} {B:PM} {ms:List (Addr×OP)} {L:Addr} {nms:List Str} {avs:List AV} {pos:Pos} {K:Frag}
inductive PaI (B:PM) (L:Addr) (nms:List Str) (f:Option Nat→List AV) (ra:Addr) (ms:List (Addr×OP)) (Pm:Nat→Option (Option Nat)) (p:List Nat) (m:Nat) (h:Heap):Prop
 | mk (cur:Option Nat) (l r:List Nat) (xs:List Value) (S:St B ((L,FrameO nms (f cur))::(ra,LiO xs)::ms) h) (hI:Ints xs l) (e:l++r=p) (hr:Rem Pm cur r) (hm:m=r.length)
inductive PaP (B:PM) (dir:Nat) (ms:List (Addr×OP)) (p:List Nat) (v:Value) (h':Heap):Prop
 | mk (a:Addr) (ys:List Value) (e:v = .ref a) (S:St B ((a,LiO ys)::ms) h') (hI:Ints ys (if dir=0 then p.reverse else p))
theorem path_ok {q:Str} {f c0 c' lp pX pY:Addr} {doc pm ctv vc vd:Value} {dir n:Nat} {td:Tok} {cur:Option Nat} {p:List Nat} {Pm:Nat→Option (Option Nat)} {j:Nat} (R:Room A 2 10) (hf:B f=some (fnMade (fnName sPath) q (fnParams sPath) (fnBody sPath) (fnScope sPath) [("preds",c0)] doc pm c' ctv))
  (hcd:CodeB B (.ref c') q) (hl:NoLim B) (hc0:∃o,B c0=some o∧o.data = .cell (some (.ref lp))) (hd:dir≤1) (hp:PairB B lp dir pX pY) (gL:GName B "list" (.type "list")) (gR:GName B "reversed" (.type "reversed"))
  (S:St B ms h) (hj:ms[j]?=some (pX,MapO prog w n (pAv Pm))) (hr:Rem Pm cur p) (hn:p.length≤50) (hvc:(optAv cur).ok vc) (hvd:vd = .int (dir:Nat) td):
  Tr prog w A (call (.ref f) [vc,vd]) h (PaP B dir ms p) X:=by
 obtain⟨oc0,hoc0,hcell⟩:=hc0
 subst hvd
 refine Tc.tr (Tc.callFd (d:=1) (u:=7) (fd:=fdPath q c0 doc pm c' ctv) R hf rfl hcd hl S rfl (fun s' _=>.of_eq rfl) (binds:=[("curr",vc),("direction",.int (dir:Nat) td)]) nmPath [optAv cur,.int (dir:Nat),.any] (.cons (AV.inn_of_ok hvc) (.cons ⟨td,rfl⟩ (.cons trivial .nil))) (fun x hx=>?_) noCellPath fun L h1 A' R' S1=>?_)
 ·rcases List.mem_cons.mp hx with rfl | hx
  ·rfl
  ·rw [List.mem_singleton.mp hx];rfl
 have O:EnvOk (callEnv (fdPath q c0 doc pm c' ctv) L f) L nmPath:=okPath
 refine Cd.assign O 2 rfl (.listD (.evNil ⟨few (by simp),B,(h1.objs.size,LiO [])::ms,[optAv cur,.int (dir:Nat),.any],.val (.ref h1.objs.size),(S1.pushM (P:=LiO []) ⟨0,rfl⟩).perm (List.Perm.swap ..),rfl,fun h2 S2=>?_⟩))
 generalize h1.objs.size=ra at S2
 refine Cd.while_ (n:=p.length) (PaI B L nmPath (fun c=>[optAv c,.int (dir:Nat),.val (.ref ra)]) ra ms Pm p) ⟨cur,[],p,[],S2,.nil,rfl,hr,rfl⟩ ?_
 rintro m PP h3 ⟨cur,l,r,xs,S3,hI,hlr,hrem,rfl⟩
 cases hrem with
 | nil=>
  refine Et.tr (Et.eq (.cmp (.name O S3 0 rfl rfl) .cNone .isNotNone) rfl) ?_
  show Tr prog w A' (execs _ _) h3 _ noX
  have hlp:l=p:=by rw [←hlr,List.append_nil]
  subst hlp
  have hd':dir=0∨dir=1:=nt75 hd
  rcases hd' with rfl | rfl
  ·refine Cd.ret (.if_ (.cmp (.name O S3 1 rfl rfl) .cInt .eq) (fun _=>.callName (.g O S3 gL) (.evCons (.callName (.g O S3 gR) (.evE (.name O S3 2 rfl rfl) fun v hv=>.evNil ⟨.type,?_⟩)))) (fun e=>absurd e (by decide)))
   have hv':v = .ref ra:=hv
   subst hv'
   obtain⟨oo,hoo,hlo⟩:=S3.mem (i:=1) rfl
   have hli:h3.IsList ra xs.toArray:=⟨oo,hoo,hlo.list⟩
   intro g dr tk os Q E hg hq he
   refine call_reversed_list (s:=⟨h3,g,dr,tk,os⟩) hli ?_
   refine hq _ _ _ _ hg (.evNil ⟨.type,?_⟩)
   have S4:=S3.pushX (revObj ra ((xs.toArray.size:Int) - 1))
   refine Tr.listRev R'.hh S4 (Heap.get?_push_size _ rfl) (isList_iff.mpr ⟨_,Heap.get?_push_of_some _ hoo,hlo.list⟩) (Nat.ne_of_lt (Heap.lt_size hoo)) (S3.notMs_of_none (St.push_none h3)) (S3.notB_of_none (St.push_none h3)) (by rw [hI.length];exact nt86 hn) fun a h' S5=>?_
   exact⟨a,_,rfl,S5.dropTo _ ((((List.Sublist.refl ms).cons _).cons _).cons_cons _),by rw [if_pos rfl];exact hI.reverse⟩
  ·refine Cd.ret (.if_ (.cmp (.name O S3 1 rfl rfl) .cInt .eq) (fun e=>absurd e (by decide)) (fun _=>.ofEv (.name O S3 2 rfl rfl) fun v hv=>?_))
   exact⟨ra,xs,hv,S3.drop0,by rw [if_neg (by decide)];exact hI⟩
 | @cons v nx r' e hr'=>
  refine Et.tr (Et.eq (.cmp (.name O S3 0 rfl rfl) .cNone .isNotNone) rfl) ?_
  show Tr prog w A' (execs _ _) h3 _ noX
  have hlen:l.length+(r'.length+1)=p.length:=by rw [←hlr];simp
  refine Cd.append S3 (j:=1) rfl (.name O S3 2 rfl rfl) (.name O S3 0 rfl rfl) (by rw [hI.length];exact nt268 hn hlen) fun vv h4 hvv S4=>?_
  obtain⟨tv,rfl⟩:=hvv
  have S4:St B ((L,FrameO nmPath [optAv (some v),.int (dir:Nat),.val (.ref ra)])::(ra,LiO (xs++[Value.int (v:Nat) tv]))::ms) h4:=S4
  obtain⟨oP,hoP,mP⟩:=S4.mem (i:=j+2) (by rw [List.getElem?_cons_succ,List.getElem?_cons_succ];exact hj)
  refine Cd.assignE O S4 0 rfl (.subM (.pair S4 hp hd (.free rfl rfl rfl ⟨_,S4.keep _ _ hoc0,hcell⟩) (.name O S4 1 rfl rfl)) (.name O S4 0 rfl rfl) hoP mP (c:=optAv nx) (by unfold pAv;rw [e];rfl)) fun h5 S5=>?_
  exact Cd.nil ⟨r'.length,by simp,nx,l++[v],r',_,S5,hI.append (.cons ⟨tv,rfl⟩ .nil),by rw [←hlr];simp,hr',rfl⟩
end
end
section
set_option tactic.hygienic false
open PySem PySem.W PyProof.Rows
variable [GenI]
inductive Way (W:WRel):Nat→List Nat→Nat→Nat→Prop where
 | one {x}:Way W x [x] x 0
 | cons {x y z l c d}:W x y c→Way W y l z d→Way W x (x::l) z (c+d)
theorem Way.snoc {W:WRel} {x y z l c d} (h:Way W x l y c) (e:W y z d):Way W x (l++[z]) z (c+d):=by
 induction h with
 | one=>rw [Nat.zero_add];have:=Way.cons e (Way.one (W:=W));simpa using this
 | cons e' _ ih=>rw [Nat.add_assoc];exact .cons e' (ih e)
theorem Way.append {W:WRel} {x y z l r c d} (h:Way W x l y c) (h':Way W y (y::r) z d):Way W x (l++r) z (c+d):=by
 induction h with
 | one=>rw [Nat.zero_add];exact h'
 | cons e' _ ih=>rw [Nat.add_assoc];exact .cons e' (ih h')
theorem Way.walk {W:WRel} {x y l c} (h:Way W x l y c):Walk W x y c:=by
 induction h with
 | one=>exact .nil
 | cons e _ ih=>exact .cons e ih
theorem Ch.way {s W D Pm m p a} (h:Ch s W D Pm m p a):Way W s p.reverse m a:=by
 induction h with
 | base=>exact .one
 | step _ _ w _ ih=>rw [List.reverse_cons];exact ih.snoc w
theorem Ch.wayBack {t:Nat} {W:WRel} {D Pm m q b} (h:Ch t (fun x y c=>W y x c) D Pm m q b):Way W m q t b:=by
 induction h with
 | base=>exact .one
 | step _ _ w _ ih=>rw [Nat.add_comm];exact .cons w ih
section
variable {prog:Program} {w:World} {A:Around} {env:Env} {h:Heap} {X:Value→Heap→Prop} {B:PM} {ms:List (Addr×OP)} {L:Addr} {nms:List Str} {avs:List AV} {pos:Pos} {K:Frag}
theorem Tr.binop {l r:PySem.Expr} {op:Operator} {P:Value→Heap→Prop} (h1:Tr prog w A (eval l env) h (fun a h1=>Tr prog w A (eval r env) h1 (fun b h2=>Tr prog w A (binaryOp op a b) h2 P X) X) X):Tr prog w A (eval (.BinOp l op r pos) env) h P X:=
 fun g d tk os Q E hg hq he=>wpAny_BinOp (h1 g d tk os _ E hg (fun a h1 g1 tk1 hg1 k1=>k1 g1 d tk1 os _ E hg1 (fun b h2 g2 tk2 hg2 k2=>k2 g2 d tk2 os Q E hg2 hq he) he) he)
inductive BdOut (B:PM) (W:WRel) (s t:Nat) (v:Value):Prop
 | mk (T oT la oL ys p d td) (f1:v = .ref T) (f2:B T=some oT) (f3:TupO [.int (d:Nat) td,.ref la] oT) (f4:B la=some oL) (f5:LiO ys oL) (f6:Ints ys p) (f7:Way W s p t d) (f8:(∀δ,Walk W s t δ→d≤δ)) (f9:p.length≤50):BdOut B W s t v
structure PathB (B:PM) (L fp:Addr):Prop where
 f:∃q doc pm c' ctv,B fp=some (fnMade (fnName sPath) q (fnParams sPath) (fnBody sPath) (fnScope sPath) [("preds",L+1)] doc pm c' ctv)∧CodeB B (.ref c') q
 lim:NoLim B
 gL:GName B "list" (.type "list")
 gR:GName B "reversed" (.type "reversed")
theorem PathB.le {B':PM} {fp} (p:PathB B L fp) (h:B.le B'):PathB B' L fp:=by
 obtain⟨⟨q,doc,pm,c',ctv,e1,e2⟩,l,g1,g2⟩:=p
 exact⟨⟨q,doc,pm,c',ctv,h _ _ e1,e2.le h⟩,l.le h,g1.le h,g2.le h⟩
theorem bdRet_ok {A:Around} {cd:Value} {dir n gs gt cnt:Nat} {net ld fp lp lf ls cn ln dc:Addr} {tail:List (Addr×OP)} {r:Ro} {D0 Z0 D1 Z1:NM} {P0 P1:Nat→Option (Option Nat)} {xs0 xs1:Array Value} {fd mt:Option Nat} {y13 y14 y15 y16 y17 y18 y19 y20:AV} {P:Flow→Heap→Prop}
  (Rm:Room A 10 100) (hn:n≤6) (C:RoC prog w K B L 0 ld lp lf ls ln dc n r) (PB:PathB B L fp)
  (S:St B ((L,FrameO nmBd (avBd net ld fp lf ls cn ln gs gt fd mt dir y13 y14 y15 y16 y17 y18 y19 y20))::(RoF prog w n cn dc r cnt D0 P0 Z0 xs0 D1 P1 Z1 xs1++tail)) h)
  (M:MetOk n r.s0 r.s1 r.E D0 Z0 P0 D1 Z1 P1 fd mt)
  (k:∀v B' h',B.le B'→St B' tail h'→BdOut B' (WE r.E) r.s0 r.s1 v→P (.ret v) h'):
  Tr prog w A (execs (bdRet++bdW.drop 5) (envBd L cd)) h P X:=by
 have O:EnvOk (envBd L cd) L nmBd:=okBd
 obtain⟨d,m,a,b,p,q,rfl,rfl,hd,hm,hc0,hc1⟩:=M.some
 obtain⟨⟨qq,doc,pm,c',ctv,hf,hcd⟩,lim,gL,gR⟩:=PB
 have hr0:=hc0.rem
 have hr1:=hc1.rem
 have l0:=hr0.lim M.lim.1
 have l1:=hr1.lim M.lim.2
 have hc1':Way (WE r.E) m q r.s1 b:=hc1.wayBack
 cases hr1 with
 | @cons _ nx r' e1 hr1'=>
 rw [List.length_cons] at l1
 obtain⟨oc0,hoc0,hcell⟩:=C.cell
 have kp:∀{h':Heap} {ms'},St B ms' h'→Kp prog w h' (.ref fp):=fun S'=>.fn (S'.keep _ _ hf) rfl
 refine Cd.ret (.tupleD (.evE (.name O S 10 rfl rfl) fun v1 hv1=>.evCons (.binop (.callName (.name O S 5 rfl rfl) (.evE (.name O S 11 rfl rfl) fun v2 hv2=>.evE .cInt fun v3 hv3=>.evNil ⟨kp S,?_⟩)))))
 obtain⟨t3,rfl⟩:=hv3
 refine(path_ok (dir:=0) (n:=n) (td:=t3) (j:=3) (Rm.le (by decide) (by decide)) hf hcd lim ⟨_,hoc0,hcell⟩ nt3 C.p gL gR S rfl hr0 (nt178 hn l0) hv2 rfl).post fun va h1 zq0=>?_
 obtain⟨a1,ys1,e2,S1,I1⟩:=zq0
 subst e2
 rw [if_pos rfl] at I1
 have S1:St B ((L,FrameO nmBd (avBd net ld fp lf ls cn ln gs gt (some d) (some m) dir y13 y14 y15 y16 y17 y18 y19 y20))::(a1,LiO ys1)::(RoF prog w n cn dc r cnt D0 P0 Z0 xs0 D1 P1 Z1 xs1++tail)) h1:=S1.perm (List.Perm.swap ..)
 obtain⟨oP,hoP,mP⟩:=S1.mem (i:=8) rfl
 refine .callName (.name O S1 5 rfl rfl) (.evE (.subM (.pair S1 (C.p.swap nt3) nt5 (.cell rfl rfl rfl ⟨_,S1.keep _ _ hoc0,hcell⟩) .cInt) (.name O S1 11 rfl rfl) hoP mP (c:=optAv nx) (by unfold pAv;rw [e1];rfl)) fun v4 hv4=>.evE .cInt fun v5 hv5=>.evNil ⟨kp S1,?_⟩)
 obtain⟨t5,rfl⟩:=hv5
 refine(path_ok (dir:=1) (n:=n) (td:=t5) (j:=8) (Rm.le (by decide) (by decide)) hf hcd lim ⟨_,hoc0,hcell⟩ nt7 (C.p.swap nt3) gL gR S1 rfl hr1' (nt170 hn l1) hv4 rfl).post fun vb h2 zq0=>?_
 obtain⟨a2,ys2,e3,S2,I2⟩:=zq0
 subst e3
 rw [if_neg (by decide)] at I2
 obtain⟨o1,ho1,hl1⟩:=S2.mem (i:=2) rfl
 obtain⟨o2,ho2,hl2⟩:=S2.mem (i:=0) rfl
 refine Tr.addLists S2 ho1 hl1 ho2 hl2 (by rw [I1.length,I2.length];simp;exact nt271 hn l0 l1) fun a3 h3 S3=>.evNil ⟨few (by exact Nat.le_of_ble_eq_true rfl),?_⟩
 obtain⟨oL,hoL,hLi⟩:=S3.mem (i:=0) rfl
 have S4:=S3.freeze0 hoL
 have hle1:B.le (B.put a3 oL):=PM.le_put (S3.off _ (.head _))
 have S5:=S4.pushB (o:={ cls:= .type "tuple",data:= .seq [v1,.ref a3].toArray})
 have hle2:=PM.le_put (o:={ cls:= .type "tuple",data:= .seq [v1,.ref a3].toArray}) (S4.notB_of_none (St.push_none h3))
 obtain⟨t1,rfl⟩:=hv1
 refine k _ _ _ (PM.le_trans hle1 hle2) (S5.dropTo tail ?_) ⟨_,_,a3,oL,_,_,d,t1,rfl,PM.put_self,⟨rfl,_,rfl⟩,hle2 _ _ PM.put_self,hLi,I1.append I2,?_,M.best d rfl,by simp;exact nt272 hn l0 l1⟩
 ·exact List.Sublist.cons _ (List.Sublist.cons _ (List.Sublist.cons _ (List.sublist_append_right _ _)))
 ·rw [hd];exact hc0.way.append hc1'
end
end
section
set_option tactic.hygienic false
open PySem PySem.W PyProof.Rows
variable [GenI]
section
variable {prog:Program} {w:World} {A:Around} {env:Env} {h:Heap} {X:Value→Heap→Prop} {P:Flow→Heap→Prop} {B:PM} {ms:List (Addr×OP)} {L:Addr} {nms:List Str} {avs:List AV} {pos:Pos} {K:Frag} {rest:List Stmt}
inductive AsgL (prog:Program) (w:World) (A:Around) (env:Env) (X:Value→Heap→Prop) (P:Flow→Heap→Prop) (rest:List Stmt) (c:Addr) (v:Value) (h1:Heap):Prop
 | mk (B:PM) (ms:List (Addr×OP)) (j:Nat) (ov:Option AV) (S:St B ms h1) (hj:ms[j]?=some (c,CellW ov)) (k:∀h2,St B (ms.set j (c,CellW (some (.val v)))) h2→Tr prog w A (execs rest env) h2 P X)
theorem Cd.assignCell {x:Str} {p1:Pos} {e:PySem.Expr} {c:Addr} (hk:env.scope.kind = .function) (hl:env.kindOf x=some .cell) (hc:env.cells.lookup x=some c)
  (h1:Tr prog w A (eval e env) h (AsgL prog w A env X P rest c) X)
  (hs:swapsWith e (some (.Name x p1)) pos.line env=pure false:=by rfl):Tr prog w A (execs (.Assign [.Name x p1] e pos::rest) env) h P X:=by
 intro g d tk os Q E hg hq he
 refine wpAny_execs_cons (wpAny_Assign_Name (h1 g d tk os _ E hg (fun v h1 g1 tk1 hg1 z=>?_) he) hs)
 obtain⟨B,ms,j,ov,S,hj,k⟩:=z
 obtain⟨o,ho,cv,hd,_⟩:=S.mem hj
 refine wpAny_storeName_cell hk hl hc ⟨o,ho,hd⟩ fun h' hc' hs'=>?_
 obtain⟨o',ho',hd'⟩:=hc'
 exact k h' (S.upd hj hs' ho' ⟨_,hd',rfl⟩) g1 d _ os Q E hg1 hq he
theorem natEq {s t:Nat}:((s:Int) == (t:Int))=decide (s=t):=by rw [Bool.eq_iff_iff];simp;exact nt110
theorem perm8 {α:Type} {a b c d e f g h:α} {t:List α}:(g::e::a::c::h::f::b::d::t).Perm (a::b::c::d::e::f::g::h::t):=by
 have h1:([6,4,0,2,7,5,1,3]:List Nat).Perm [0,1,2,3,4,5,6,7]:=by decide
 exact(h1.map fun i=>[a,b,c,d,e,f,g,h].getD i a).append_right t
theorem front2 {α:Type} {a b c:α} {l:List α}:(c::a::b::l).Perm (a::b::c::l):=(List.perm_middle (l₁:=[a,b])).symm
theorem front1 {α:Type} {a c:α} {l:List α}:(c::a::l).Perm (a::c::l):=List.Perm.swap ..
structure BdF (prog:Program) (w:World) (K:Frag) (B:PM):Prop where
 inK:InK K B
 gF:GraphF K B
 cF:CountF K B
 lw:FnAt B 966 sLw "_law_weight" .none .none
 lwF:∃o,B 966=some o∧o.cls = .type "function"
 wf:FnAt B 129 sWf "_weight_function" .none .none
 gCallable:GName B "callable" (.builtin "callable")
 gWf:GName B "_weight_function" (.ref 129)
 gCount:GName B "count" (.ref 184)
 gNext:GName B "next" (.builtin "next")
 gPush:GName B "heappush" (.builtin "_heapq.heappush")
 gPop:GName B "heappop" (.builtin "_heapq.heappop")
 gL:GName B "list" (.type "list")
 gR:GName B "reversed" (.type "reversed")
 nest:NestB B 196 192
 lim:NoLim B
theorem BdF.le {B':PM} (F:BdF prog w K B) (h:B.le B'):BdF prog w K B':=by
 obtain⟨o,e1,e2⟩:=F.lwF
 exact⟨F.inK.le h,F.gF.le h,F.cF.le h,F.lw.le h,⟨o,h _ _ e1,e2⟩,F.wf.le h,F.gCallable.le h,F.gWf.le h,F.gCount.le h,F.gNext.le h,F.gPush.le h,F.gPop.le h,F.gL.le h,F.gR.le h,F.nest.le h,F.lim.le h⟩
theorem PairB.of {a b l:Addr} {o:Obj} (h:B l=some o) (ho:o = { cls:= .type "list",data:= .seq [Value.ref a,.ref b].toArray}):PairB B l 0 a b:=by subst ho;exact⟨_,_,h,⟨rfl,_,rfl⟩,rfl,rfl⟩
noncomputable def avBd0 (net:Addr) (s t:Nat) (wv x4 x5 x6 x7 x8 x9 x10 x11 x12:AV):List AV:=[.val (.ref net),.int (s:Nat),.int (t:Nat),wv,x4,x5,x6,x7,x8,x9,x10,x11,x12,.any,.any,.any,.any,.any,.any,.any,.any]
theorem bdPush0 {cd:Value} {cn dc fa fb lf:Addr} {cnt v k:Nat} {j i:Nat} {x:Str} {p1 p2 p3 p4 p5 p6 p7 p8 p9 p10 p11:Pos} {k1 k2 k3:Nat} {odc:Obj} (Rm:Room A 10 100) (F:BdF prog w K B) (hdc:B dc=some odc) (hk:k≤1) (hp:PairB B lf k fa fb)
  (S:St B ((L,FrameO nmBd avs)::(cn,CountO dc (cnt:Nat))::ms) h) (hj:ms[j]?=some (fa,ListO #[])) (h6:avs[6]?=some (.val (.ref lf))) (h8:avs[8]?=some (.val (.ref cn))) (hxi:nmBd[i]?=some x) (hvi:avs[i]?=some (.int (v:Nat)))
  (kk:∀B' ys h',B.le B'→QuB qBd B' ys [(0,cnt,v)]→St B' ((L,FrameO nmBd avs)::(cn,CountO dc ((cnt+1:Nat):Int))::ms.set j (fa,ListO ys)) h'→Tr prog w A (execs rest (envBd L cd)) h' P X) (hxd:(x == ("__debug__" :Str))=false:=by decide):
  Tr prog w A (execs (.Expr (.Call (.Name "heappush" p1) [.Subscript (.Name "fringe" p2) (.Constant (.int (k:Nat)) k1 p3) p4,.Tuple [.Constant (.int 0) k2 p5,.Call (.Name "next" p6) [.Name "c" p7] [] p8,.Name x p9] k3 p10] [] p11) pos::rest) (envBd L cd)) h P X:=by
 have O:EnvOk (envBd L cd) L nmBd:=okBd
 refine Cd.expr (.callName (.g O S F.gPush) (.evE (.pair S hp hk (.name O S 6 rfl h6) .cInt) fun v0 hv0=>.evCons (.tupleD (.evE .cInt fun v1 hv1=>.evCons (.callName (.g O S F.gNext) (.evE (.name O S 8 rfl h8) fun v2 hv2=>.evNil ⟨.builtin,?_⟩))))))
 have hv0':v0 = .ref fa:=hv0
 have hv2':v2 = .ref cn:=hv2
 subst hv0' hv2'
 refine(Tr.next (Rm.le (by decide) (by decide)) F.inK F.cF S (j:=1) rfl hdc).post fun vc h5 zq0=>?_
 obtain⟨⟨tc,hvc⟩,S5⟩:=zq0
 have ecast:((cnt:Nat):Int)+1=((cnt+1:Nat):Int):=by push_cast;rfl
 rw [ecast] at S5
 have S5:St B ((L,FrameO nmBd avs)::(cn,CountO dc ((cnt+1:Nat):Int))::ms) h5:=S5
 refine .evE (.name O S5 i hxi hvi (hd:=hxd)) fun v3 hv3=>.evNil ⟨few (by exact Nat.le_of_ble_eq_true rfl),.evNil ⟨.builtin,?_⟩⟩
 obtain⟨t1,rfl⟩:=hv1
 obtain⟨t3,rfl⟩:=hv3
 subst hvc
 have hle:B.le (B.put h5.objs.size { cls:= .type "tuple",data:= .seq [Value.int 0 t1,.int (cnt:Nat) tc,.int (v:Nat) t3].toArray}):=PM.le_put (S5.notB_of_none (St.push_none h5))
 have S6:=S5.pushB (o:={ cls:= .type "tuple",data:= .seq [Value.int 0 t1,.int (cnt:Nat) tc,.int (v:Nat) t3].toArray})
 have hput:(B.put h5.objs.size { cls:= .type "tuple",data:= .seq [Value.int 0 t1,.int (cnt:Nat) tc,.int (v:Nat) t3].toArray}) h5.objs.size=some { cls:= .type "tuple",data:= .seq [Value.int 0 t1,.int (cnt:Nat) tc,.int (v:Nat) t3].toArray}:=PM.put_self
 revert hle S6 hput
 generalize B.put h5.objs.size { cls:= .type "tuple",data:= .seq [Value.int 0 t1,.int (cnt:Nat) tc,.int (v:Nat) t3].toArray} =B'
 intro hle S6 hput
 have ent:EntB qBd B' (.ref h5.objs.size) (0,cnt,v):=⟨_,_,t1,tc,_,rfl,hput,⟨rfl,_,rfl⟩,t3,rfl⟩
 refine Tr.heappush (q:=qBd) (F:=[]) (Rm.le (by decide) (by decide)) S6 (j:=j+2) (by rw [List.getElem?_cons_succ,List.getElem?_cons_succ];exact hj) QuB.nil ent (by simp) (by simp) fun ys F' h7 S7 q7 p7=>?_
 have:F' = [(0,cnt,v)]:=List.perm_singleton.mp p7
 subst this
 exact kk B' ys h7 hle q7 S7
theorem sideInit {n s t:Nat} {W:WRel} (hs:s<n) {c:Nat}:Side n s W (fun _=>none) (upd (fun _=>none) s 0) (upd (fun _=>none) s none) [(0,c,s)] t (fun _=>True):=by
 refine⟨fun _ _ h=>(by contradiction),upd_self,fun e he=>?_,fun x a h1 _=>?_,fun _ _ h=>(by contradiction),fun x a hx=>?_,fun x a hx=>?_,upd_self,fun _ _ h=>(by contradiction),fun x=>?_⟩
 ·rw [List.mem_singleton.mp he];exact⟨0,upd_self,Nat.le_refl _⟩
 all_goals
  by_cases q:x=s
  ·subst q
   first
   | (rw [upd_self] at h1;obtain rfl:=Option.some.inj h1;exact⟨c,.head _⟩)
   | (rw [upd_self] at hx;obtain rfl:=Option.some.inj hx;first | exact hs | exact⟨_,.base upd_self⟩)
   | (rw [upd_self,upd_self];rfl)
  ·first
   | (rw [upd_ne q] at h1;contradiction)
   | (rw [upd_ne q] at hx;contradiction)
   | (rw [upd_ne q,upd_ne q];rfl)
set_option maxHeartbeats 4000000 in
theorem bdBody2_ok {A:Around} {dir:Bool} {n s t:Nat} {net dn ld fp lf ls lp cn dc d0 d1 p0 p1 f0 f1 s0 s1:Addr} {E:Nat→Nat→Option (Option Nat)} {l:List (Str×Value)} {tail:List (Addr×OP)} {jd:Nat} {odc:Obj} {cd:Value}
  (Rm:Room A 15 150) (hn:n≤6) (hs:s<n) (ht:t<n) (hst:s≠t) (F:BdF prog w K B) (G:GrB prog w B dir net dn n E l) (hjd:tail[jd]?=some (dn,InsD l)) (hdc:B dc=some odc)
  (hpD:PairB B ld 0 d0 d1) (hpP:PairB B lp 0 p0 p1) (hpF:PairB B lf 0 f0 f1) (hpS:PairB B ls 0 s0 s1) (hCell:∃o,B (L+1)=some o∧o.data = .cell (some (.ref lp))) (hPath:PathB B L fp)
  (S:St B ((L,FrameO nmBd (avBd0 net s t (.val (.ref 966)) (.val (.ref ld)) (.val (.ref fp)) (.val (.ref lf)) (.val (.ref ls)) (.val (.ref cn)) .any .any .any .any))::(cn,CountO dc ((0:Nat):Int))::(s1,MapO prog w n (dAv (upd (fun _=>none) t 0)))::(s0,MapO prog w n (dAv (upd (fun _=>none) s 0)))::(f1,ListO #[])::(f0,ListO #[])::(p1,MapO prog w n (pAv (upd (fun _=>none) t none)))::(p0,MapO prog w n (pAv (upd (fun _=>none) s none)))::(d1,MapO prog w n (dAv fun _=>none))::(d0,MapO prog w n (dAv fun _=>none))::tail) h)
  (kOut:∀v B' h',B.le B'→St B' tail h'→BdOut B' (WE E) s t v→P (.ret v) h')
  (kNo:∀h' B' avs ms',B.le B'→St B' ((L,FrameO nmBd avs)::(ms'++tail)) h'→avs[1]?=some (.int (s:Nat))→avs[2]?=some (.int (t:Nat))→(∀δ,¬Walk (WE E) s t δ)→Tr prog w A (execs bdRest (envBd L cd)) h' P X):
  Tr prog w A (execs ((fnBody sBd).drop 10) (envBd L cd)) h P X:=by
 have O:EnvOk (envBd L cd) L nmBd:=okBd
 refine bdPush0 (k:=0) (i:=1) (j:=3) (cnt:=0) (v:=s) (Rm.le (by decide) (by decide)) F hdc nt3 hpF S rfl rfl rfl rfl rfl fun B1 ys0 h1 hle1 q0 S1=>?_
 have F1:=F.le hle1
 refine bdPush0 (k:=1) (i:=2) (j:=2) (cnt:=1) (v:=t) (Rm.le (by decide) (by decide)) F1 (hle1 _ _ hdc) nt7 ((hpF.le hle1).swap nt3) S1 rfl rfl rfl rfl rfl fun B2 ys1 h2 hle2 q1 S2=>?_
 have hle12:=PM.le_trans hle1 hle2
 have F2:=F.le hle12
 have G2:=G.le hle12
 have S2:St B2 ((L,FrameO nmBd (avBd0 net s t (.val (.ref 966)) (.val (.ref ld)) (.val (.ref fp)) (.val (.ref lf)) (.val (.ref ls)) (.val (.ref cn)) .any .any .any .any))::(cn,CountO dc ((2:Nat):Int))::(s1,MapO prog w n (dAv (upd (fun _=>none) t 0)))::(s0,MapO prog w n (dAv (upd (fun _=>none) s 0)))::(f1,ListO ys1)::(f0,ListO ys0)::(p1,MapO prog w n (pAv (upd (fun _=>none) t none)))::(p0,MapO prog w n (pAv (upd (fun _=>none) s none)))::(d1,MapO prog w n (dAv fun _=>none))::(d0,MapO prog w n (dAv fun _=>none))::tail) h2:=S2
 have go:∀B3 h3 ln a0 a1,B2.le B3→PairB B3 ln 0 a0 a1→TabB prog w B3 a0 n E→TabB prog w B3 a1 n (flipE E)→St B3 ((L,FrameO nmBd (avBd0 net s t (.val (.ref 966)) (.val (.ref ld)) (.val (.ref fp)) (.val (.ref lf)) (.val (.ref ls)) (.val (.ref cn)) (.val (.ref ln)) .any .any .any))::(cn,CountO dc ((2:Nat):Int))::(s1,MapO prog w n (dAv (upd (fun _=>none) t 0)))::(s0,MapO prog w n (dAv (upd (fun _=>none) s 0)))::(f1,ListO ys1)::(f0,ListO ys0)::(p1,MapO prog w n (pAv (upd (fun _=>none) t none)))::(p0,MapO prog w n (pAv (upd (fun _=>none) s none)))::(d1,MapO prog w n (dAv fun _=>none))::(d0,MapO prog w n (dAv fun _=>none))::tail) h3→
   Tr prog w A (execs ((fnBody sBd).drop 13) (envBd L cd)) h3 P X:=by
  intro B3 h3 ln a0 a1 hle3 hnb t0 t1 S3
  have hle:B.le B3:=PM.le_trans hle12 hle3
  have F3:=F.le hle
  refine Cd.assignE O S3 10 rfl .cNone fun h4 S4=>?_
  refine Cd.assignE O S4 11 rfl .cNone fun h5 S5=>?_
  refine Cd.assignE O S5 12 rfl (av:= .int ((1:Nat):Int)) .cInt fun h6 S6=>?_
  have C0:RoC prog w K B3 L 0 ld lp lf ls ln dc n ⟨d0,p0,s0,f0,d1,p1,s1,f1,a0,a1,s,t,E⟩:=
   ⟨F3.inK,F3.cF,F3.lw,F3.gPush,F3.gPop,F3.gNext,hpD.le hle,hpP.le hle,hpS.le hle,hpF.le hle,⟨a1,hnb⟩,hCell.imp fun o z=>⟨hle _ _ z.1,z.2⟩,⟨odc,hle _ _ hdc⟩,t0⟩
  have C1:RoC prog w K B3 L 1 ld lp lf ls ln dc n (Ro.swap ⟨d0,p0,s0,f0,d1,p1,s1,f1,a0,a1,s,t,E⟩):=
   ⟨F3.inK,F3.cF,F3.lw,F3.gPush,F3.gPop,F3.gNext,(hpD.le hle).swap nt3,(hpP.le hle).swap nt3,(hpS.le hle).swap nt3,(hpF.le hle).swap nt3,⟨a0,hnb.swap nt3⟩,hCell.imp fun o z=>⟨hle _ _ z.1,z.2⟩,⟨odc,hle _ _ hdc⟩,t1⟩
  have T:TurnOk B3 n t s (flipE E) (fun _=>none) (upd (fun _=>none) t 0) (upd (fun _=>none) t none) ys1 [(0,1,t)] (fun _=>none) (upd (fun _=>none) s 0) (upd (fun _=>none) s none) ys0 [(0,0,s)] none none 2:=by
   refine⟨⟨t,sideInit ht⟩,⟨s,sideInit hs⟩,q1.le hle3,q0.le (PM.le_trans hle2 hle3),⟨fun d e=>(by contradiction),fun x a b h1 h2=>?_⟩,fun e he=>(by rw [List.mem_singleton.mp he];exact Nat.lt_succ_self _),fun e he=>(by rw [List.mem_singleton.mp he];exact Nat.zero_lt_succ _),fun x h1 _=>(by contradiction),.inl ⟨fun _=>rfl,fun _=>rfl,fun e he=>by rw [List.mem_singleton.mp he],fun e he=>by rw [List.mem_singleton.mp he]⟩⟩
   by_cases q:x=t
   ·subst q;rw [upd_ne (Ne.symm hst)] at h2;contradiction
   ·rw [upd_ne q] at h1;contradiction
  refine bdLoop_ok (dir:=0) (s:=s) (t:=t) (r:=⟨d0,p0,s0,f0,d1,p1,s1,f1,a0,a1,s,t,E⟩) (tail:=tail) (Rm.le (by decide) (by decide)) hn hst C0 C1 T (by exact Nat.le_of_ble_eq_true rfl) (by exact Nat.le_of_ble_eq_true rfl) (S6.perm (.cons _ (.cons _ perm8))) ?_ ?_
  ·intro h' B' dir' cnt D0 P0 Z0 xs0 D1 P1 Z1 xs1 fd mt y13 y14 y15 y16 y17 y18 y19 y20 hle' _ S' M'
   exact bdRet_ok (Rm.le (by decide) (by decide)) hn (C0.le hle') ((hPath.le hle).le hle') S' M' fun v B'' h'' hle'' S'' o=>⟨v,rfl,kOut v B'' h'' (PM.le_trans (PM.le_trans hle hle') hle'') S'' o⟩
  ·intro h' B' avs ms' hle' S' ⟨av,e,e1,e2⟩ hno
   exact kNo h' B' avs ms' (PM.le_trans hle hle') S' e1 e2 hno
 obtain⟨ox,hox,c1,c2,c3,_⟩:=G2.inst
 obtain⟨ad,b1,b2,b3⟩:=G2.adj
 have hdir:∀{h':Heap} {avs'},St B2 ((L,FrameO nmBd avs')::(cn,CountO dc ((2:Nat):Int))::(s1,MapO prog w n (dAv (upd (fun _=>none) t 0)))::(s0,MapO prog w n (dAv (upd (fun _=>none) s 0)))::(f1,ListO ys1)::(f0,ListO ys0)::(p1,MapO prog w n (pAv (upd (fun _=>none) t none)))::(p0,MapO prog w n (pAv (upd (fun _=>none) s none)))::(d1,MapO prog w n (dAv fun _=>none))::(d0,MapO prog w n (dAv fun _=>none))::tail) h'→∃od,InstAt h' net ox (clsOf dir) (some od)∧InsD l od:=fun S'=>by
  obtain⟨od,hod,hil⟩:=S'.mem (i:=jd+10) hjd
  exact⟨od,instAt (S'.keep _ _ hox) c1 c2 c3 hod,hil⟩
 obtain⟨od,I,hil⟩:=hdir S2
 refine Cd.ifTr (b:=dir) (.test (.callMeth (.name O S2 0 rfl rfl) (.own (F2.inK.in S2) (F2.gF.cls dir) (F2.gF.mDir dir) I hil (G2.free _ (.head _))) (.evNil ⟨?_,(gdir_ok (Rm.le (by decide) (by decide)) F2.gF S2).post fun v h3 ⟨hv,S3⟩=>⟨dir,hv,?_⟩⟩)))
 ·cases dir with
  | true=>exact Kp.ofFn S2 F2.gF.fDirD
  | false=>exact Kp.ofFn S2 F2.gF.fDirG
 obtain⟨od,I,hil⟩:=hdir S3
 have own:∀{nm:Str} {a:Addr},nm∈(["_node","_adj","_succ","_pred","graph"]:List Str)→l.lookup nm=some (.ref a)→Ga prog w h3 (.ref net) nm (.ref a):=fun {nm a} hm hl=>.own (F2.inK.in S3) (F2.gF.cls dir) (F2.gF.own dir _ hm) I hil hl rfl
 cases dir with
 | true=>
  obtain⟨pd,c4,c5⟩:=G2.pred rfl
  refine Cd.assign O 9 rfl (.listD (.evE (.attr (.name O S3 0 rfl rfl) (own (by simp) (b3 rfl))) fun v1 hv1=>.evE (.attr (.name O S3 0 rfl rfl) (own (by simp) c4)) fun v2 hv2=>.evNil ⟨few (by exact Nat.le_of_ble_eq_true rfl),?_⟩))
  have hv1':v1 = .ref ad:=hv1
  have hv2':v2 = .ref pd:=hv2
  subst hv1' hv2'
  have Sg:=S3.pushB (o:={ cls:= .type "list",data:= .seq [Value.ref ad,.ref pd].toArray})
  have hle:=PM.le_put (o:={ cls:= .type "list",data:= .seq [Value.ref ad,.ref pd].toArray}) (S3.notB_of_none (St.push_none h3))
  exact⟨_,_,_,.val (.ref h3.objs.size),Sg,rfl,fun h4 S4=>go _ h4 h3.objs.size ad pd hle (PairB.of PM.put_self rfl) (b2.le hle) (c5.le hle) S4⟩
 | false=>
  refine Cd.assign O 9 rfl (.listD (.evE (.attr (.name O S3 0 rfl rfl) (own (by simp) b1)) fun v1 hv1=>.evE (.attr (.name O S3 0 rfl rfl) (own (by simp) b1)) fun v2 hv2=>.evNil ⟨few (by exact Nat.le_of_ble_eq_true rfl),?_⟩))
  have hv1':v1 = .ref ad:=hv1
  have hv2':v2 = .ref ad:=hv2
  subst hv1' hv2'
  have Sg:=S3.pushB (o:={ cls:= .type "list",data:= .seq [Value.ref ad,.ref ad].toArray})
  have hle:=PM.le_put (o:={ cls:= .type "list",data:= .seq [Value.ref ad,.ref ad].toArray}) (S3.notB_of_none (St.push_none h3))
  have hsym:flipE E=E:=by funext u v;exact G2.sym rfl v u
  exact⟨_,_,_,.val (.ref h3.objs.size),Sg,rfl,fun h4 S4=>go _ h4 h3.objs.size ad ad hle (PairB.of PM.put_self rfl) (b2.le hle) (by rw [hsym];exact b2.le hle) S4⟩
end
end
section
set_option tactic.hygienic false
open PySem PySem.W PyProof.Rows
variable [GenI]
section
variable {prog:Program} {w:World} {A:Around} {env:Env} {h:Heap} {X:Value→Heap→Prop} {P:Flow→Heap→Prop} {B:PM} {ms:List (Addr×OP)} {L:Addr} {nms:List Str} {avs:List AV} {pos:Pos} {K:Frag} {rest:List Stmt}
set_option maxHeartbeats 4000000 in
theorem bdBody_ok {A:Around} {dir:Bool} {n s t:Nat} {net dn:Addr} {E:Nat→Nat→Option (Option Nat)} {l:List (Str×Value)} {tail:List (Addr×OP)} {jd:Nat}
  (Rm:Room A 15 150) (hn:n≤6) (hs:s<n) (ht:t<n) (F:BdF prog w K B) (G:GrB prog w B dir net dn n E l) (hjd:tail[jd]?=some (dn,InsD l))
  (S:St B ((L,FrameO nmBd (avBd0 net s t (.val (.ref 966)) .any .any .any .any .any .any .any .any .any))::(L+1,CellW none)::(192,Tab0)::tail) h)
  (kOut:∀v B' h',B.le B'→St B' ((192,TabG)::tail) h'→BdOut B' (WE E) s t v→P (.ret v) h')
  (kSame:∀v B' h',s=t→B.le B'→St B' ((192,Tab0)::tail) h'→BdOut B' (WE E) s t v→P (.ret v) h')
  (kNo:∀h' B' avs ms',B.le B'→St B' ((L,FrameO nmBd avs)::(ms'++((192,TabG)::tail))) h'→avs[1]?=some (.int (s:Nat))→avs[2]?=some (.int (t:Nat))→(∀δ,¬Walk (WE E) s t δ)→Tr prog w A (execs bdRest (envBd L (.ref 196))) h' P X):
  Tr prog w A (execs (fnBody sBd) (envBd L (.ref 196))) h P X:=by
 have O:EnvOk (envBd L (.ref 196)) L nmBd:=okBd
 refine Cd.ifTr (b:=true) (.inNet (Rm.le (by decide) (by decide)) F.inK F.gF G S (j:=jd+3) (by rw [List.getElem?_cons_succ,List.getElem?_cons_succ,List.getElem?_cons_succ];exact hjd) (.name O S 1 rfl rfl) (.name O S 0 rfl rfl) fun h1 S1=>?_)
 rw [decide_eq_true hs]
 refine Cd.ifTr (b:=true) (.inNet (Rm.le (by decide) (by decide)) F.inK F.gF G S1 (j:=jd+3) (by rw [List.getElem?_cons_succ,List.getElem?_cons_succ,List.getElem?_cons_succ];exact hjd) (.name O S1 2 rfl rfl) (.name O S1 0 rfl rfl) fun h2 S2=>?_)
 rw [decide_eq_true ht]
 refine Cd.ifB (b:=decide (s=t)) (Et.eq (.cmp (.name O S2 1 rfl rfl) (.name O S2 2 rfl rfl) .eq) natEq) (fun hb=>?_) (fun hb=>?_)
 ·have hst:=of_decide_eq_true hb
  subst hst
  refine Cd.ret (.tupleD (.evE .cInt fun v1 hv1=>.evCons (.listD (.evE (.name O S2 1 rfl rfl) fun v2 hv2=>.evNil ⟨few (by exact Nat.le_of_ble_eq_true rfl),.evNil ⟨few (by exact Nat.le_of_ble_eq_true rfl),?_⟩⟩))))
  obtain⟨t1,rfl⟩:=hv1
  have S3:=S2.pushB (o:={ cls:= .type "list",data:= .seq [v2].toArray})
  have hle1:=PM.le_put (o:={ cls:= .type "list",data:= .seq [v2].toArray}) (S2.notB_of_none (St.push_none h2))
  have hput1:(B.put h2.objs.size { cls:= .type "list",data:= .seq [v2].toArray}) h2.objs.size=some { cls:= .type "list",data:= .seq [v2].toArray}:=PM.put_self
  generalize B.put h2.objs.size { cls:= .type "list",data:= .seq [v2].toArray} =B1 at S3 hle1 hput1
  have S4:=S3.pushB (o:={ cls:= .type "tuple",data:= .seq [Value.int 0 t1,.ref h2.objs.size].toArray})
  have hle2:=PM.le_put (o:={ cls:= .type "tuple",data:= .seq [Value.int 0 t1,.ref h2.objs.size].toArray}) (S3.notB_of_none (St.push_none _))
  exact kSame _ _ _ rfl (PM.le_trans hle1 hle2) S4.drop0.drop0 ⟨_,_,h2.objs.size,_,[v2],[s],0,t1,rfl,PM.put_self,⟨rfl,_,rfl⟩,hle2 _ _ hput1,⟨0,rfl⟩,.cons hv2 .nil,.one,fun δ _=>Nat.zero_le _,by exact Nat.le_of_ble_eq_true rfl⟩
 have hst:s≠t:=of_decide_eq_false hb
 obtain⟨ow,how,hwc⟩:=F.lwF
 refine Cd.assign O 3 rfl (.callName (.g O S2 F.gWf) (.evE (.name O S2 0 rfl rfl) fun v1 hv1=>.evE (.name O S2 3 rfl rfl) fun v2 hv2=>.evNil ⟨Kp.ofFn S2 F.wf,?_⟩))
 have hv1':v1 = .ref net:=hv1
 have hv2':v2 = .ref 966:=hv2
 subst hv1' hv2'
 refine(wf_ok (Rm.le (by decide) (by decide)) F.wf F.lim F.gCallable S2 how hwc).post fun v h3 ⟨hv,S3⟩=>⟨_,_,_,.val (.ref 966),S3,hv,fun h4 S4=>?_⟩
 have S4:St B ((L,FrameO nmBd (avBd0 net s t (.val (.ref 966)) .any .any .any .any .any .any .any .any .any))::(L+1,CellW none)::(192,Tab0)::tail) h4:=S4
 refine Cd.assign O 4 rfl (.listD (.evCons (.dict0 (.evCons (.dict0 (.evNil ⟨few (by exact Nat.le_of_ble_eq_true rfl),?_⟩))))))
 have Sa:=S4.pushM (o:={ cls:= .type "dict",data:= .dict #[]}) (P:=MapO prog w n (dAv fun _=>none)) MapO.nil
 have Sb:=Sa.pushM (o:={ cls:= .type "dict",data:= .dict #[]}) (P:=MapO prog w n (dAv fun _=>none)) MapO.nil
 generalize hd0:h4.objs.size=d0 at Sa Sb ⊢
 generalize (h4.push { cls:= .type "dict",data:= .dict #[]})=h5 at Sb ⊢
 generalize hd1:h5.objs.size=d1 at Sb ⊢
 generalize (h5.push { cls:= .type "dict",data:= .dict #[]})=h6 at Sb ⊢
 have Sc:=Sb.pushB (o:={ cls:= .type "list",data:= .seq [Value.ref d0,.ref d1].toArray})
 have hleD:=PM.le_put (o:={ cls:= .type "list",data:= .seq [Value.ref d0,.ref d1].toArray}) (Sb.notB_of_none (St.push_none h6))
 have hpD:PairB (B.put h6.objs.size { cls:= .type "list",data:= .seq [Value.ref d0,.ref d1].toArray}) h6.objs.size 0 d0 d1:=PairB.of PM.put_self rfl
 generalize hld:h6.objs.size=ld at Sc hleD hpD ⊢
 generalize B.put ld { cls:= .type "list",data:= .seq [Value.ref d0,.ref d1].toArray} =B1 at Sc hleD hpD
 refine⟨B1,_,_,.val (.ref ld),Sc.perm front2,rfl,fun h7 S7=>?_⟩
 have S7:St B1 ((L,FrameO nmBd (avBd0 net s t (.val (.ref 966)) (.val (.ref ld)) .any .any .any .any .any .any .any .any))::(d1,MapO prog w n (dAv fun _=>none))::(d0,MapO prog w n (dAv fun _=>none))::(L+1,CellW none)::(192,Tab0)::tail) h7:=S7
 have F1:=F.le hleD
 refine Cd.assignCell (c:=L+1) rfl rfl rfl (.listD (.evCons (.dict1 S7 hs (fun h' S'=>.name O S' 1 rfl rfl) (fun h' S'=>.cNone) fun p0 h8 S8=>.evCons (.dict1 (S8.perm front1) ht (fun h' S'=>.name O S' 2 rfl rfl) (fun h' S'=>.cNone) fun p1 h9 S9=>.evNil ⟨few (by exact Nat.le_of_ble_eq_true rfl),?_⟩))))
 have Sd:=(S9.perm front1).pushB (o:={ cls:= .type "list",data:= .seq [Value.ref p0,.ref p1].toArray})
 have hleP:=PM.le_put (o:={ cls:= .type "list",data:= .seq [Value.ref p0,.ref p1].toArray}) ((S9.perm front1).notB_of_none (St.push_none h9))
 have hpP:PairB (B1.put h9.objs.size { cls:= .type "list",data:= .seq [Value.ref p0,.ref p1].toArray}) h9.objs.size 0 p0 p1:=PairB.of PM.put_self rfl
 generalize hlp:h9.objs.size=lp at Sd hleP hpP ⊢
 generalize B1.put lp { cls:= .type "list",data:= .seq [Value.ref p0,.ref p1].toArray} =B2 at Sd hleP hpP
 refine⟨B2,_,5,_,Sd,rfl,fun h10 S10=>?_⟩
 have S10:St B2 ([(L,FrameO nmBd (avBd0 net s t (.val (.ref 966)) (.val (.ref ld)) .any .any .any .any .any .any .any .any)),(p1,MapO prog w n (upd (fun _=>none) t (.val .none))),(p0,MapO prog w n (upd (fun _=>none) s (.val .none))),(d1,MapO prog w n (dAv fun _=>none)),(d0,MapO prog w n (dAv fun _=>none))]++(L+1,CellW (some (.val (.ref lp))))::(192,Tab0)::tail) h10:=S10
 obtain⟨oc,hoc,cv,hcd,hcv⟩:=St.getMid S10
 have hcv':cv=some (.ref lp):=hcv
 subst hcv'
 have S11:=(S10.perm List.perm_middle.symm).freeze0 hoc
 have hleC:=PM.le_put (o:=oc) (S10.off (L+1,_) (List.mem_append_right _ (.head _)))
 have hCell:∃o,(B2.put (L+1) oc) (L+1)=some o∧o.data = .cell (some (.ref lp)):=⟨oc,PM.put_self,hcd⟩
 generalize B2.put (L+1) oc=B3 at S11 hleC hCell
 have hleB3:B.le B3:=PM.le_trans (PM.le_trans hleD hleP) hleC
 refine Cd.def_ O rfl (F.nest.le hleB3) S11 (j:=4) rfl 5 rfl (clos:=[("preds",L+1)]) rfl (by decide) fun fp B4 c' ctv doc pm h12 hle4 hfp hcode S12=>?_
 have S12:St B4 ((L,FrameO nmBd (avBd0 net s t (.val (.ref 966)) (.val (.ref ld)) (.val (.ref fp)) .any .any .any .any .any .any .any))::(p1,MapO prog w n (upd (fun _=>none) t (.val .none)))::(p0,MapO prog w n (upd (fun _=>none) s (.val .none)))::(d1,MapO prog w n (dAv fun _=>none))::(d0,MapO prog w n (dAv fun _=>none))::(192,TabG)::tail) h12:=S12
 have hleB4:B.le B4:=PM.le_trans hleB3 hle4
 have F4:=F.le hleB4
 have hPath:PathB B4 L fp:=⟨⟨_,doc,pm,c',ctv,hfp,hcode⟩,F4.lim,F4.gL,F4.gR⟩
 clear hfp hcode
 refine Cd.assign O 6 rfl (.listD (.evCons (.listD (.evNil ⟨few (by simp),.evCons (.listD (.evNil ⟨few (by simp),.evNil ⟨few (by exact Nat.le_of_ble_eq_true rfl),?_⟩⟩))⟩))))
 have Se:=S12.pushM (o:={ cls:= .type "list",data:= .seq ([]:List Value).toArray}) (P:=ListO #[]) ⟨rfl,_,rfl⟩
 have Sf:=Se.pushM (o:={ cls:= .type "list",data:= .seq ([]:List Value).toArray}) (P:=ListO #[]) ⟨rfl,_,rfl⟩
 generalize hf0:h12.objs.size=f0 at Se Sf ⊢
 generalize (h12.push { cls:= .type "list",data:= .seq ([]:List Value).toArray})=h13 at Sf ⊢
 generalize hf1:h13.objs.size=f1 at Sf ⊢
 generalize (h13.push { cls:= .type "list",data:= .seq ([]:List Value).toArray})=h14 at Sf ⊢
 have Sg:=Sf.pushB (o:={ cls:= .type "list",data:= .seq [Value.ref f0,.ref f1].toArray})
 have hleF:=PM.le_put (o:={ cls:= .type "list",data:= .seq [Value.ref f0,.ref f1].toArray}) (Sf.notB_of_none (St.push_none h14))
 have hpF:PairB (B4.put h14.objs.size { cls:= .type "list",data:= .seq [Value.ref f0,.ref f1].toArray}) h14.objs.size 0 f0 f1:=PairB.of PM.put_self rfl
 generalize hlf:h14.objs.size=lf at Sg hleF hpF ⊢
 generalize B4.put lf { cls:= .type "list",data:= .seq [Value.ref f0,.ref f1].toArray} =B5 at Sg hleF hpF
 refine⟨B5,_,_,.val (.ref lf),Sg.perm front2,rfl,fun h15 S15=>?_⟩
 have S15:St B5 ((L,FrameO nmBd (avBd0 net s t (.val (.ref 966)) (.val (.ref ld)) (.val (.ref fp)) (.val (.ref lf)) .any .any .any .any .any .any))::(f1,ListO #[])::(f0,ListO #[])::(p1,MapO prog w n (upd (fun _=>none) t (.val .none)))::(p0,MapO prog w n (upd (fun _=>none) s (.val .none)))::(d1,MapO prog w n (dAv fun _=>none))::(d0,MapO prog w n (dAv fun _=>none))::(192,TabG)::tail) h15:=S15
 refine Cd.assign O 7 rfl (.listD (.evCons (.dict1 S15 hs (fun h' S'=>.name O S' 1 rfl rfl) (fun h' S'=>.cInt) fun s0 h16 S16=>.evCons (.dict1 (S16.perm front1) ht (fun h' S'=>.name O S' 2 rfl rfl) (fun h' S'=>.cInt) fun s1 h17 S17=>.evNil ⟨few (by exact Nat.le_of_ble_eq_true rfl),?_⟩))))
 have Sh:=(S17.perm front1).pushB (o:={ cls:= .type "list",data:= .seq [Value.ref s0,.ref s1].toArray})
 have hleS:=PM.le_put (o:={ cls:= .type "list",data:= .seq [Value.ref s0,.ref s1].toArray}) ((S17.perm front1).notB_of_none (St.push_none h17))
 have hpS:PairB (B5.put h17.objs.size { cls:= .type "list",data:= .seq [Value.ref s0,.ref s1].toArray}) h17.objs.size 0 s0 s1:=PairB.of PM.put_self rfl
 generalize hls:h17.objs.size=ls at Sh hleS hpS ⊢
 generalize B5.put ls { cls:= .type "list",data:= .seq [Value.ref s0,.ref s1].toArray} =B6 at Sh hleS hpS
 refine⟨B6,_,_,.val (.ref ls),Sh,rfl,fun h18 S18=>?_⟩
 have S18:St B6 ((L,FrameO nmBd (avBd0 net s t (.val (.ref 966)) (.val (.ref ld)) (.val (.ref fp)) (.val (.ref lf)) (.val (.ref ls)) .any .any .any .any .any))::(s1,MapO prog w n (upd (fun _=>none) t (.int 0)))::(s0,MapO prog w n (upd (fun _=>none) s (.int 0)))::(f1,ListO #[])::(f0,ListO #[])::(p1,MapO prog w n (upd (fun _=>none) t (.val .none)))::(p0,MapO prog w n (upd (fun _=>none) s (.val .none)))::(d1,MapO prog w n (dAv fun _=>none))::(d0,MapO prog w n (dAv fun _=>none))::(192,TabG)::tail) h18:=S18
 have hleB6:B.le B6:=PM.le_trans hleB4 (PM.le_trans hleF hleS)
 have F6:=F.le hleB6
 refine Cd.assign O 8 rfl (.callName (.g O S18 F6.gCount) (.evNil ⟨Kp.inK (F6.inK.in S18) F6.cF.cls.keep,?_⟩))
 refine(count_ok (Rm.le (by decide) (by decide)) F6.inK F6.cF S18).post fun vcn h19 ⟨cn,dc,B7,odc,e1,hle7,hdc,S19⟩=>⟨B7,_,_,.val (.ref cn),S19.perm front1,e1,fun h20 S20=>?_⟩
 have S20:St B7 ((L,FrameO nmBd (avBd0 net s t (.val (.ref 966)) (.val (.ref ld)) (.val (.ref fp)) (.val (.ref lf)) (.val (.ref ls)) (.val (.ref cn)) .any .any .any .any))::(cn,CountO dc ((0:Nat):Int))::(s1,MapO prog w n (upd (fun _=>none) t (.int 0)))::(s0,MapO prog w n (upd (fun _=>none) s (.int 0)))::(f1,ListO #[])::(f0,ListO #[])::(p1,MapO prog w n (upd (fun _=>none) t (.val .none)))::(p0,MapO prog w n (upd (fun _=>none) s (.val .none)))::(d1,MapO prog w n (dAv fun _=>none))::(d0,MapO prog w n (dAv fun _=>none))::(192,TabG)::tail) h20:=S20
 have hleB7:B.le B7:=PM.le_trans hleB6 hle7
 have F7:=F.le hleB7
 have dz:∀(k:Nat),upd (fun _=>none) k (AV.int 0)=dAv (upd (fun _=>none) k 0):=fun k=>dAv_upd (f:=fun _=>none) (k:=k) (a:=0)
 have pz:∀(k:Nat),upd (fun _=>none) k (AV.val .none)=pAv (upd (fun _=>none) k none):=fun k=>pAv_upd (f:=fun _=>none) (k:=k) (a:=none)
 rw [dz,dz,pz,pz] at S20
 have h46:B4.le B7:=PM.le_trans (PM.le_trans hleF hleS) hle7
 have h17:B1.le B7:=PM.le_trans hleP (PM.le_trans hleC (PM.le_trans hle4 h46))
 have h27:B2.le B7:=PM.le_trans hleC (PM.le_trans hle4 h46)
 have h37:B3.le B7:=PM.le_trans hle4 h46
 obtain⟨oC,hoC,hoCd⟩:=hCell
 refine bdBody2_ok (jd:=jd+1) Rm hn hs ht hst F7 (G.le hleB7) (by rw [List.getElem?_cons_succ];exact hjd) hdc (hpD.le h17) (hpP.le h27) (hpF.le (PM.le_trans hleS hle7)) (hpS.le hle7) ⟨oC,h37 _ _ hoC,hoCd⟩ (hPath.le h46) S20
  (fun v B' h' hle' S' o=>kOut v B' h' (PM.le_trans hleB7 hle') S' o) (fun h' B' avs ms' hle' S' e1 e2 hno=>kNo h' B' avs ms' (PM.le_trans hleB7 hle') S' e1 e2 hno)
end
end
section
set_option tactic.hygienic false
open PySem PySem.W PyProof.Rows
variable [GenI]
noncomputable def Ps (prog:Program) (w:World) (A:Around) (env:Env) (h:Heap) (e:PySem.Expr):Prop:=
 ∀(g:Array GenState) (d:Drawn) (tk:Nat) (os:OsState) (Q:Value→Shared→Prop) (E:Value→Shared→Prop),(∀(y:Str) t tk',y.length≤100→Q (.str y t) ⟨h,g,d,tk',os⟩)→wpAny (model prog w) A (eval e env) Q E ⟨h,g,d,tk,os⟩
section
variable {prog:Program} {w:World} {A:Around} {env:Env} {h:Heap} {X:Value→Heap→Prop} {P:Flow→Heap→Prop} {B:PM} {ms:List (Addr×OP)} {L:Addr} {nms:List Str} {avs:List AV} {pos:Pos} {K:Frag} {rest:List Stmt}
theorem Ps.const {x:Str} {k:Nat} (hx:x.length≤100:=by decide):Ps prog w A env h (.Constant (.str x) k pos):=fun _ _ _ _ _ _ hq=>Calls.Constant_str (hq _ _ _ hx)
theorem small_text:∀n:Nat,n<6→(Str.ofString (toString (n:Int))).length≤100:=by decide +kernel
theorem small_log:∀n:Nat,n<6→n.log2<1920:=by decide
theorem Ps.int {e:PySem.Expr} {n:Nat} (he:Ev prog w A env h e (.int (n:Nat))) (hn:n<6):Ps prog w A env h (.FormattedValue e (-1) none pos):=fun g d tk os Q E hq=>
 wpAny_FormattedValue_plain (he g d tk os _ E fun v tk1 ⟨t,hv⟩=>by
  subst hv
  refine wpAny_formatField_int ?_ (hq _ _ _ (small_text n hn))
  rw [show(n:Int).natAbs=n from Int.natAbs_natCast n]
  exact small_log n hn)
theorem joins_of {g:Array GenState} {d:Drawn} {os:OsState} {E:Value→Shared→Prop} {Q:Str→Shared→Prop}:∀{es:List PySem.Expr} {acc:Str} {tk:Nat},(∀e∈es,Ps prog w A env h e)→acc.length+100*es.length≤2000→(∀(out:Str) tk',out.length≤2000→Q out ⟨h,g,d,tk',os⟩)→
  Joins (model prog w) A E (evalEach es env) acc Q ⟨h,g,d,tk,os⟩
 | [],acc,tk,_,hl,hq=>hq acc tk (by simpa using hl)
 | e::es,acc,tk,hp,hl,hq=>by
  rw [List.length_cons] at hl
  refine hp e (.head _) g d tk os _ E fun y t tk' hy=>⟨y,t,rfl,?_,joins_of (fun e' he'=>hp e' (.tail _ he')) ?_ hq⟩
  ·rw [strLen_append,sizeLine_eq];exact nt215 hl hy
  ·rw [strLen_append];exact nt214 hl hy
theorem Tr.fstr {e1 e2:PySem.Expr} {es:List PySem.Expr} {P:Value→Heap→Prop} (hp:∀e∈e1::e2::es,Ps prog w A env h e) (hl:es.length≤8) (k:∀y t,P (.str y t) h):Tr prog w A (eval (.JoinedStr (e1::e2::es) pos) env) h P X:=
 fun g d tk os Q E hg hq he=>wpAny_JoinedStr (joins_of hp (by rw [List.length_cons,List.length_cons];show 0+_≤_;exact nt97 hl) fun out tk' ho=>⟨by rw [sizeLine_eq];exact nt82 ho,hq _ _ _ _ hg (k _ _)⟩)
inductive ExcB (B:PM) (x:Str) (C:Addr):Prop
 | mk (mg:Str→Option Value) (bm:List Value) (N:Addr) (nm q:Str) (bs:List Value) (hdct:Bool) (sn:List Str) (sub:List Value) (ab:Bool) (col:Option Bool) (dd:Option Addr) (k0 k1 k2 k3 k5:Option Value) (mN:Str→Option Value) (e1:mg x=some (.ref C)) (e2:mN "__init__" =none)
   (hk:Kept B fun h=>h.Ns mainGlobals mg∧h.get? C=some (excClassObj nm q C N bs bm hdct sn sub ab col dd k0 k1 k2 k3 k5 "Exception.__new__")∧h.Ns N mN∧OwnTail h [.type "Exception",.type "BaseException",.type "object"] bm):ExcB B x C
theorem ExcB.le {B':PM} {x C} (e:ExcB B x C) (h:B.le B'):ExcB B' x C:=by
 obtain⟨mg,bm,N,nm,q,bs,hdct,sn,sub,ab,col,dd,k0,k1,k2,k3,k5,mN,e1,e2,k⟩:=e
 exact⟨mg,bm,N,nm,q,bs,hdct,sn,sub,ab,col,dd,k0,k1,k2,k3,k5,mN,e1,e2,k.le h⟩
theorem Cd.raise {x:Str} {C:Addr} {np cpos:Pos} {e:PySem.Expr} (O:EnvOk env L nms) (hh:A.handled=none) (S:St B ms h) (hE:ExcB B x C)
  (h1:Tr prog w A (eval e env) h (fun v h1=>∃ms',St B ms' h1∧∀h' e,Heap.MadeExcOf h1 h' e (.ref C) [v]→X (.ref e) h') X)
  (hl:env.kindOf x=some .globalImplicit:=by rfl) (hd:(x == ("__debug__" :Str))=false:=by decide) (hn:StarE [e] env:=by rfl):
  Tr prog w A (execs (.Raise (some (.Call (.Name x np) [e] [] cpos)) none pos::rest) env) h P X:=by
 intro g d tk os Q E hg hq he
 obtain⟨mg,bm,N,nm,q,bs,hdct,sn,sub,ab,col,dd,k0,k1,k2,k3,k5,mN,hb,hni,hk⟩:=hE
 obtain⟨hgs,hC,hN,T⟩:=hk h S.keep
 refine wpAny_execs_cons ?_
 refine wpAny_Raise_call_subT (C:=C) (nm:=nm) (q:=q) (N:=N) (bs:=bs) (bm:=bm) (hdct:=hdct) (sn:=sn) (sub:=sub) (ab:=ab) (col:=col) (dd:=dd) (k0:=k0) (k1:=k1) (k2:=k2) (k3:=k3) (k5:=k5)
  PySem.F.excBase_Exception (mN:=mN) (T.hasType PySem.F.excBase_Exception.hasBase) hh (by rw [backTo_of hn];rfl) hni ?_
 refine Ev.global O hl hgs hb hd g d tk os _ E fun f tk1 hf=>⟨hf,?_⟩
 rw [backTo_of hn]
 refine Calls.evalArgs_plain (Calls.spliced_cons (h1 g d tk1 os _ E hg (fun v h2 g2 tk2 hg2 ⟨ms',S2,kx⟩=>Calls.spliced_nil ⟨rfl,few (by exact Nat.le_of_ble_eq_true rfl),?_⟩) he))
 obtain⟨_,hC2,hN2,T2⟩:=hk h2 S2.keep
 exact⟨hC2,hN2,T2,fun h' e hm=>he _ _ _ _ hg2 (kx h' e hm)⟩
end
end
section
set_option tactic.hygienic false
open PySem PySem.W PyProof.Rows
variable [GenI]
inductive Fly (B:PM) (ms:List (Addr×OP)) (lenv:Env) (e C:Addr) (h:Heap):Prop
 | mk (base a0) (f1:Heap.FlyingW base [lenv] e (.ref C) a0 h) (f2:(∀a o,B a=some o→base.get? a=some o)) (f3:∀p∈ms,∃o,base.get? p.1=some o∧p.2 o):Fly B ms lenv e C h
theorem FrameO.slots {nms:List Str} {avs:List AV} {o:Obj} {sl:Array (Option Value)} (h:FrameO nms avs o):FrameO nms avs { o with slots:=sl}:=by
 obtain⟨m,⟨es,ep,hd,r⟩,hf⟩:=h
 exact⟨m,⟨es,ep,hd,r⟩,hf⟩
theorem FrameO.notFields {nms:List Str} {avs:List AV} {o:Obj} (h:FrameO nms avs o):∀vs,o.data≠ .fields vs:=by
 obtain⟨m,⟨es,ep,hd,r⟩,hf⟩:=h
 intro vs q;rw [hd] at q;contradiction
theorem Fly.st {B:PM} {ms:List (Addr×OP)} {h₀ h:Heap} {base:Heap} {Lf:Addr} {nms:List Str} {avs:List AV} (S:St B ((Lf,FrameO nms avs)::ms) h₀) (hs:base.StaysIn h) (hB:∀a o,B a=some o→base.get? a=some o) (hm:∀p∈ms,∃o,base.get? p.1=some o∧p.2 o) (hu:h₀.UpToSlots h):
  St B ((Lf,FrameO nms avs)::ms) h:=by
 refine⟨fun a o e=>hs a o (hB a o e),fun p hp=>?_,S.off,S.nd,S.low,S.st2⟩
 rcases List.mem_cons.mp hp with rfl | hp
 ·obtain⟨o,ho,hf⟩:=S.own _ (.head _)
  obtain⟨sl,hsl⟩:=hu _ o ho hf.notFields
  exact⟨_,hsl,hf.slots⟩
 ·obtain⟨o,ho,r⟩:=hm p hp
  exact⟨o,hs _ _ ho,r⟩
section
variable {prog:Program} {w:World} {A:Around} {env lenv:Env} {h:Heap} {X:Value→Heap→Prop} {B:PM} {ms ms':List (Addr×OP)} {L Lf:Addr} {nms nmsL:List Str} {avs avsL:List AV} {pos:Pos}
theorem leaveRaise {h1 h2:Heap} {e C:Addr} {v:Value} (hfr:A.frames=some [env,lenv]) (hf:env.frame=some L) (hk:env.scope.kind = .function) (hlf:lenv.frame=some Lf) (hlk:lenv.scope.kind = .function)
  (S:St B ((L,FrameO nms avs)::(ms'++(Lf,FrameO nmsL avsL)::ms)) h1) (hx:Heap.MadeExcOf h1 h2 e (.ref C) [v]):
  Tr prog w A (leaving env (.ref e)) h2 (fun _ h3=>St B ((Lf,FrameO nmsL avsL)::ms) h3∧Fly B ms lenv e C h3) noX:=by
 intro g d tk os Q E hg hq he
 obtain⟨oL,hoL,fL⟩:=S.own (L,FrameO nms avs) (.head _)
 obtain⟨oF,hoF,fF⟩:=S.own (Lf,FrameO nmsL avsL) (.tail _ (List.mem_append_right _ (.head _)))
 have nd:=S.nd
 rw [List.map_cons,List.map_append,List.map_cons] at nd
 have n1:=List.nodup_cons.mp nd
 have n2:=List.nodup_append.mp n1.2
 have n3:=List.nodup_cons.mp n2.2.1
 have hB:∀a o,B a=some o→(hideAll h1 [L,Lf]).get? a=some o:=fun a o e=>hideAll_get _ (S.keep a o e) fun hm=>by
  rcases List.mem_cons.mp hm with q | q
  ·have:=S.off (L,_) (.head _);dsimp only at this;rw [q,this] at e;contradiction
  ·have q:=List.mem_singleton.mp q
   have:=S.off (Lf,_) (.tail _ (List.mem_append_right _ (.head _)));dsimp only at this;rw [q,this] at e;contradiction
 have hm:∀p∈ms,∃o,(hideAll h1 [L,Lf]).get? p.1=some o∧p.2 o:=fun p hp=>by
  obtain⟨o,ho,r⟩:=S.own p (.tail _ (List.mem_append_right _ (.tail _ hp)))
  refine⟨o,hideAll_get _ ho fun hmm=>?_,r⟩
  rcases List.mem_cons.mp hmm with q | q
  ·have hq:=List.mem_map_of_mem (f:=(·.1)) hp
   rw [show p.1=L from q] at hq
   exact n1.1 (List.mem_append_right _ (.tail _ hq))
  ·have q:=List.mem_singleton.mp q
   have hq:=List.mem_map_of_mem (f:=(·.1)) hp
   rw [show p.1=Lf from q] at hq
   exact n3.1 hq
 refine wpAny_leaves_madeW (base:=hideAll h1 [L,Lf]) (h:=h1) hfr hf (fun b o q=>of_hideAll _ q) ⟨by rw [hk];decide,⟨L,oL,hf,hideAll_none _ (.head _),hoL,fL.notFields⟩,by rw [hlk];decide,⟨Lf,oF,hlf,hideAll_none _ (.tail _ (.head _)),hoF,fF.notFields⟩,trivial⟩ hx fun h' t hfl _ _ hu=>?_
 refine hq _ _ _ _ hg ⟨?_,_,_,hfl,hB,hm⟩
 have S1:St B ((Lf,FrameO nmsL avsL)::ms) h1:=S.dropTo _ (List.Sublist.cons _ (List.sublist_append_right _ _))
 exact Fly.st S1 hfl.1 hB hm ((Heap.UpToSlots.of_keeps hx.keeps).trans hu)
theorem Tc.callFnCX {a:Addr} {s:Stmt} {qual:Str} {dV kV:Value} {pos:List Value} {kw:List (Str×Value)} {binds:List (Str×Value)} {P:Value→Heap→Prop} {XB:Addr→Value→Value→Heap→Prop} {d u:Nat} (R:Room A (d+1) (u+3)) (F:FnAt B a s qual dV kV) (hl:NoLim B) (S:St B ms h)
  (hb:∀x s',s'.heap=h→BindsTo s' (fdOf s qual dV kV x) ⟨pos,kw⟩ binds) (nms:List Str) (avs:List AV) (cs:List (Str×Nat×Option AV))
  (hkind:∀L,∀x∈binds,(fnScope s).names.lookup x.1=some .local∨((fnScope s).names.lookup x.1=some .cell∧((cellsFrom (L+1) (fnScope s).names []).lookup x.1).isSome=true))
  (hf:Fits nms avs (bindL (fun x=>(fnScope s).names.lookup x) binds fun _=>none))
  (hcs:∀L,∀c∈cs,(cellsFrom (L+1) (fnScope s).names []).lookup c.1=some (L+1+c.2.1))
  (hcv:∀c∈cs,match c.2.2 with | some av=>av.inn (bindC (fun x=>(fnScope s).names.lookup x) binds (fun _=>none) c.1) | none=>bindC (fun x=>(fnScope s).names.lookup x) binds (fun _=>none) c.1=none)
  (hcn:(cs.map (·.2.1)).Nodup)
  (k:∀L h1 cd,(∃o fd,B a=some o∧o.data = .func fd∧fd.code=cd)→Room (A.deeper (envC s qual L a cd)) d u→St B ((L,FrameO nms avs)::(cs.map (fun c=>(L+1+c.2.1,CellW c.2.2))++ms)) h1→Tr prog w (A.deeper (envC s qual L a cd)) (execs (fnBody s) (envC s qual L a cd)) h1 (fun f h2=>P (match f with | .ret v=>v | _=>.none) h2) (XB L cd))
  (hX:∀L cd e h2,XB L cd e h2→Tr prog w (A.deeper (envC s qual L a cd)) (leaving (envC s qual L a cd) e) h2 (fun _ h3=>X e h3) noX)
  (hco:(fnScope s).isCoroutine=false:=by rfl) (hgen:(fnScope s).isGenerator=false:=by rfl) (hk:(fnScope s).kind = .function:=by rfl):
  Tc prog w A (.call (.ref a) ⟨pos,kw⟩) h P X:=by
 intro g dr tk os Q E hg hq he
 obtain⟨oc,od,sl,x,e,c,o,vs,t,e1,e2,e3,e4⟩:=F
 obtain⟨oS,mc,hS,hSn,hSl⟩:=hl
 refine codeAny_call_function (fd:=fdOf s qual dV kV x) (by have:=R.dp;exact nt204 this) (S.keep _ _ e) rfl hco hgen rfl ⟨c,o,vs,t,e1,S.keep _ _ e2,e3,e4⟩ (hb x _ rfl _ _ _ _ ?_)
 refine wpAny_newFunctionEnv_cells hk (hkind _) fun env henv s' I=>?_
 subst henv
 obtain⟨h1,tk1,rfl⟩:=I.toInCall.same
 have hlim:Heap.NoLimit h1:=⟨mc,ns_iff.mpr ⟨oS,I.toInCall.keep _ _ (S.keep _ _ hS),hSn⟩,hSl⟩
 refine⟨hlim,codeAny_func ?_⟩
 obtain⟨oL,hoL,hno⟩:=ns_iff.mp I.toInCall.ns
 have none_of:∀a,h.objs.size≤a→h.get? a=none:=fun a ha=>by
  cases q:h.get? a with
  | none=>rfl
  | some o=>exact absurd (Heap.lt_size q) (Nat.not_lt.mpr ha)
 have S1:St B (((h.objs.size,FrameO nms avs)::cs.map (fun c=>(h.objs.size+1+c.2.1,CellW c.2.2)))++ms) h1:=by
  refine S.newMs I.toInCall.keep (fun p hp=>?_) ?_
  ·rcases List.mem_cons.mp hp with rfl | hp
   ·exact⟨St.push_none h,S.size2,oL,hoL,_,hno,hf⟩
   ·obtain⟨c,hc,rfl⟩:=List.mem_map.mp hp
    obtain⟨oc,hoc,hd⟩:=I.cell c.1 _ (hcs _ c hc)
    exact⟨none_of _ (Nat.le_trans (Nat.le_succ _) (Nat.le_add_right ..)),Nat.lt_of_lt_of_le S.size2 (Nat.le_trans (Nat.le_succ _) (Nat.le_add_right ..)),oc,hoc,_,hd,hcv c hc⟩
  ·rw [List.map_cons,List.map_map]
   refine List.nodup_cons.mpr ⟨fun q=>?_,?_⟩
   ·obtain⟨c,_,e⟩:=List.mem_map.mp q
    exact absurd (show h.objs.size+1+c.2.1=h.objs.size from e) nt191
   ·have e:(cs.map ((·.1) ∘ fun c=>(h.objs.size+1+c.2.1,CellW c.2.2)))=(cs.map (·.2.1)).map (h.objs.size+1 + ·):=by rw [List.map_map];rfl
    rw [e]
    exact List.Pairwise.map (h.objs.size+1 + ·) (fun a b hab e=>hab (by simpa using e)) hcn
 refine k h.objs.size h1 x.cdv ⟨_,_,e,rfl,rfl⟩ R.deeper S1 g dr _ os _ _ hg (fun f h2 g2 tk2 hg2 p=>?_) (fun e' h2 g2 tk2 hg2 q=>?_)
 ·exact hq _ _ _ _ hg2 p
 ·exact hX _ _ e' h2 q g2 dr tk2 os _ _ hg2 (fun _ h3 g3 tk3 hg3 p=>he _ _ _ _ hg3 p) fun _ _ _ _ _ z=>z.elim
end
end
section
set_option tactic.hygienic false
open PySem PySem.W PyProof.Rows
variable [GenI]
noncomputable def Refused (B:PM) (C:Addr) (lenv:Env) (Lf:Addr) (nmsL:List Str) (avsL:List AV) (ms:List (Addr×OP)) (N:Prop):Value→Heap→Prop:=fun v h'=>
 ∃e B',v = .ref e∧B.le B'∧St B' ((Lf,FrameO nmsL avsL)::ms) h'∧Fly B' ms lenv e C h'∧N
section
variable {prog:Program} {w:World} {A:Around} {env lenv:Env} {h:Heap} {X:Value→Heap→Prop} {B:PM} {ms msr:List (Addr×OP)} {L Lf:Addr} {nms nmsL:List Str} {avs avsL:List AV} {pos:Pos} {K:Frag}
theorem bd_ok {dir:Bool} {n s t jd:Nat} {ts tt:Tok} {net dn:Addr} {E:Nat→Nat→Option (Option Nat)} {l:List (Str×Value)} (Rm:Room A 16 160) (hfr:A.frames=some [lenv]) (hlf:lenv.frame=some Lf) (hlk:lenv.scope.kind = .function)
  (hn:n≤6) (hs:s<n) (ht:t<n) (F:BdF prog w K B) (fBd:∃T oT tw nw,FnAt B 197 sBd "bidirectional_dijkstra" (.ref T) .none∧B T=some oT∧oT.data = .seq #[.str "weight" tw] nw) (hcode:∃o fd,B 197=some o∧o.data = .func fd∧fd.code = .ref 196) (hE:ExcB B "NetworkXNoPath" 108)
  (G:GrB prog w B dir net dn n E l) (hjd:msr[jd]?=some (dn,InsD l)) (S:St B ((Lf,FrameO nmsL avsL)::(192,Tab0)::msr) h):
  Tr prog w A (call (.ref 197) [.ref net,.int (s:Nat) ts,.int (t:Nat) tt,.ref 966]) h
   (fun v h'=>∃B',B.le B'∧St B' ((Lf,FrameO nmsL avsL)::(192,TabG)::msr) h'∧BdOut B' (WE E) s t v)
   (Refused B 108 lenv Lf nmsL avsL ((192,TabG)::msr) (∀δ,¬Walk (WE E) s t δ)):=by
 obtain⟨T,oT,tw,nw,fB,hT,hTd⟩:=fBd
 have S':=S.perm (ms':=(192,Tab0)::(Lf,FrameO nmsL avsL)::msr) (List.Perm.swap ..)
 refine Tc.tr (Tc.callFnCX (d:=15) (u:=157) (XB:=fun L cd e h2=>cd = .ref 196∧∃B' h1 ev v ms' avs,e = .ref ev∧B.le B'∧St B' ((L,FrameO nmBd avs)::(ms'++(Lf,FrameO nmsL avsL)::(192,TabG)::msr)) h1∧Heap.MadeExcOf h1 h2 ev (.ref 108) [v]∧∀δ,¬Walk (WE E) s t δ)
  Rm fB F.lim S' (binds:=[("G",.ref net),("source",.int (s:Nat) ts),("target",.int (t:Nat) tt),("weight",.ref 966)]) (fun x s' hs'=>.of_defaults rfl (by rw [hs'];exact S.keep _ _ hT) hTd rfl rfl)
  nmBd (avBd0 net s t (.val (.ref 966)) .any .any .any .any .any .any .any .any .any) [("preds",0,none)] (fun L x hx=>?_) ?_ (fun L c hc=>?_) (fun c hc=>?_) (by simp) ?_ ?_)
 ·rcases List.mem_cons.mp hx with rfl | hx
  ·exact .inl rfl
  ·rcases List.mem_cons.mp hx with rfl | hx
   ·exact .inl rfl
   ·rcases List.mem_cons.mp hx with rfl | hx
    ·exact .inl rfl
    ·rw [List.mem_singleton.mp hx];exact .inl rfl
 ·refine .cons rfl (.cons ⟨_,rfl⟩ (.cons ⟨_,rfl⟩ (.cons rfl ?_)))
  iterate 17 refine .cons trivial ?_
  exact .nil
 ·rw [List.mem_singleton.mp hc];rfl
 ·rw [List.mem_singleton.mp hc];rfl
 ·intro L h1 cd hcd R' S1
  have hcd':cd = .ref 196:=by
   obtain⟨o,fd,e1,e2,e3⟩:=hcd
   obtain⟨o',fd',e1',e2',e3'⟩:=hcode
   rw [e1] at e1';obtain rfl:=Option.some.inj e1'
   rw [e2] at e2';obtain rfl:=Data.func.inj e2'
   rw [←e3,e3']
  subst hcd'
  refine bdBody_ok (jd:=jd+1) (R'.le (by decide) (by decide)) hn hs ht F G (by rw [List.getElem?_cons_succ];exact hjd) S1 ?_ ?_ ?_
  ·intro v B' h' hle S2 o
   exact⟨B',hle,S2.perm (List.Perm.swap ..),o⟩
  ·intro v B' h' _ hle S2 o
   exact⟨B',hle,(S2.weak0 (P':=TabG) fun o ho=>⟨#[],ho⟩).perm (List.Perm.swap ..),o⟩
  ·intro h' B' avs ms' hle S2 e1 e2 hno
   have O:EnvOk (envBd L (.ref 196)) L nmBd:=okBd
   refine Cd.raise O R'.hh S2 (hE.le hle) (.fstr (fun e he=>?_) (by exact Nat.le_of_ble_eq_true rfl) fun y t=>⟨_,S2,fun h3 e hm=>⟨rfl,B',h',e,_,ms',avs,rfl,hle,S2.perm (.cons _ (.append_left _ (.swap ..))),hm,hno⟩⟩)
   rcases List.mem_cons.mp he with rfl | he
   ·exact .const
   ·rcases List.mem_cons.mp he with rfl | he
    ·exact .int (.name O S2 1 rfl e1) (nt172 hn hs)
    ·rcases List.mem_cons.mp he with rfl | he
     ·exact .const
     ·rcases List.mem_cons.mp he with rfl | he
      ·exact .int (.name O S2 2 rfl e2) (nt172 hn ht)
      ·rw [List.mem_singleton.mp he];exact .const
 ·rintro L cd e h2 ⟨rfl,B',h1,ev,v,ms',avs,rfl,hle,S2,hm,hno⟩
  refine(leaveRaise (lenv:=lenv) (by show A.frames.map _=_;rw [hfr];rfl) rfl rfl hlf hlk S2 hm).post fun _ h3 ⟨S3,hfl⟩=>⟨ev,B',rfl,hle,S3,hfl,hno⟩
end
end
section
structure AE where
 (f c v d:Nat)
 (p:Option Nat)
noncomputable abbrev EQ:=Nat→Option (Nat×Nat)
inductive EntN (s:Nat) (W:WRel) (hf:Nat→Nat) (enq:EQ) (ex:Nat→Option (Option Nat)) (g:Nat→Nat) (e:AE):Prop
 | a (h1:e.v=s) (h2:e.d=0) (h3:e.p=none) (h4:e.f=0) (h5:ex s=none)
 | b (u c ce:Nat) (h1:e.p=some u) (h2:(ex u).isSome=true) (h3:W u e.v c) (h4:g u+c≤e.d) (h5:e.f=e.d+hf e.v) (h6:enq e.v=some (ce,hf e.v)) (h7:ce≤e.d)
inductive ExN (s:Nat) (W:WRel) (enq:EQ) (ex:Nat→Option (Option Nat)) (g tm:Nat→Nat) (x:Nat) (p:Option Nat):Prop
 | a (h:x=s)
 | b (u c e h:Nat) (h1:p=some u) (h2:(ex u).isSome=true) (h3:W u x c) (h4:g u+c≤g x) (h5:g u<g x∨tm u<tm x) (h6:enq x=some (e,h)) (h7:e≤g x)
inductive LeN (s:Nat) (enq:EQ) (w k:Nat):Prop
 | a (h:w=s)
 | b (e h:Nat) (h1:enq w=some (e,h)) (h2:e≤k)
inductive InN (s:Nat) (Q:List AE) (ex:Nat→Option (Option Nat)) (g:Nat→Nat) (x e:Nat):Prop
 | a (q:AE) (hq:q∈Q) (h1:q.v=x) (h2:q.d=e)
 | b (h:x=s)
 | c (h1:(ex x).isSome=true) (h2:g x=e)
noncomputable def EntOk (n s:Nat) (W:WRel) (hf:Nat→Nat) (enq:EQ) (ex:Nat→Option (Option Nat)) (g:Nat→Nat) (e:AE):Prop:=
 e.v<n∧EntN s W hf enq ex g e
structure AOk (n s t:Nat) (W:WRel) (hf:Nat→Nat) (Q:List AE) (enq:EQ) (ex:Nat→Option (Option Nat)) (g tm:Nat→Nat) (T b:Nat) (v:Nat) (R:Nat→Prop):Prop where
 ent:∀e∈Q,EntOk n s W hf enq ex g e
 enqOk:∀x e h,enq x=some (e,h)→h=hf x∧x<n∧InN s Q ex g x e
 src:(ex s=none∧(∃q∈Q,q.v=s∧q.d=0)∧∀x,ex x=none)∨(ex s=some none∧g s=0)
 exOk:∀x p,ex x=some p→x<n∧ExN s W enq ex g tm x p
 rel:∀x,(ex x).isSome=true→∀w c,W x w c→(x=v→R w)→LeN s enq w (g x+c)
 noT:ex t=none
 clock:∀x,tm x<T
 uniq:(Q.map fun q=>(q.v,q.d)).Nodup
 fresh:∀q∈Q,q.v≠s→(ex q.v).isSome=true→q.d≠g q.v
 bound:(∀x e h,enq x=some (e,h)→e≤b)∧(∀e∈Q,e.d≤b)∧∀x,(ex x).isSome=true→g x≤b
variable {n s t:Nat} {W:WRel} {hf:Nat→Nat} {Q Q':List AE} {enq:EQ} {ex:Nat→Option (Option Nat)} {g tm:Nat→Nat} {T b v:Nat} {R:Nat→Prop}
theorem InN.sub {Q Q':List AE} {x e:Nat} (h:InN s Q ex g x e) (hq:∀q,q∈Q→q∈Q'):InN s Q' ex g x e:=by
 rcases h with⟨q,m,h1,h2⟩ | h | ⟨h1,h2⟩
 ·exact .a q (hq q m) h1 h2
 ·exact .b h
 ·exact .c h1 h2
theorem AOk.perm (h:AOk n s t W hf Q enq ex g tm T b v R) (hp:Q'.Perm Q):AOk n s t W hf Q' enq ex g tm T b v R:=
 ⟨fun e he=>h.ent e (hp.mem_iff.mp he),fun x e k hx=>(h.enqOk x e k hx).imp_right fun z=>z.imp_right (·.sub fun _=>hp.mem_iff.mpr),
  h.src.imp (fun⟨z,⟨q,hq,r⟩,z'⟩=>⟨z,⟨q,hp.mem_iff.mpr hq,r⟩,z'⟩) id,h.exOk,h.rel,h.noT,h.clock,(hp.map _).nodup_iff.mpr h.uniq,fun q hq=>h.fresh q (hp.mem_iff.mp hq),h.bound.1,fun e he=>h.bound.2.1 e (hp.mem_iff.mp he),h.bound.2.2⟩
theorem AOk.full (h:AOk n s t W hf Q enq ex g tm T b v R) (hR:∀w c,W v w c→R w) (v':Nat):AOk n s t W hf Q enq ex g tm T b v' (fun _=>True):=
 ⟨h.ent,h.enqOk,h.src,h.exOk,fun x hx w c hw _=>h.rel x hx w c hw fun e=>hR w c (e▸hw),h.noT,h.clock,h.uniq,h.fresh,h.bound⟩
theorem AOk.claim (h:AOk n s t W hf Q enq ex g tm T b v (fun _=>True)) {x c:Nat} (hw:Walk W s x c):((ex x).isSome=true∧g x≤c)∨∃q∈Q,∃c2,Walk W q.v x c2∧q.d+c2≤c:=by
 induction hw with
 | nil=>
  rcases h.src with⟨_,⟨q,hq,h1,h2⟩,_⟩ | ⟨h1,h2⟩
  ·exact .inr ⟨q,hq,0,h1▸ .nil,by exact nt68 h2⟩
  ·exact .inl ⟨by rw [h1];rfl,by exact nt69 h2⟩
 | @snoc x y c d _ e ih=>
  rcases ih with⟨hx,hg⟩ | ⟨q,hq,c2,hw2,hle⟩
  ·have hs:ex s=some none∧g s=0:=by
    rcases h.src with⟨_,_,h1⟩ | h1
    ·rw [h1] at hx;contradiction
    ·exact h1
   rcases h.rel x hx y d e (fun _=>trivial)with rfl | ⟨e',hh,hy,hle⟩
   ·exact .inl ⟨by rw [hs.1];rfl,by omega⟩
   ·obtain⟨_,_,⟨q,hq,h1,h2⟩ | rfl | ⟨h1,h2⟩⟩:=h.enqOk y e' hh hy
    ·exact .inr ⟨q,hq,0,h1▸ .nil,by exact nt345 hg hle h2⟩
    ·exact .inl ⟨by rw [hs.1];rfl,by lia⟩
    ·exact .inl ⟨h1,by exact nt346 hg hle h2⟩
  ·exact .inr ⟨q,hq,c2+d,.snoc hw2 e,by exact nt293 hle⟩
theorem AOk.noWay (h:AOk n s t W hf [] enq ex g tm T b v (fun _=>True)):∀δ,¬Walk W s t δ:=fun δ hw=>by
 rcases h.claim hw with⟨h1,_⟩ | ⟨q,hq,_⟩
 ·rw [h.noT] at h1;contradiction
 ·exact absurd hq List.not_mem_nil
theorem AOk.best {e:AE} (h:AOk n s t W hf (e::Q) enq ex g tm T b v (fun _=>True)) (hl:∀q∈Q,e.f≤q.f) (het:e.v=t) (adm:∀x c,Walk W x t c→hf x≤c) {δ:Nat} (hw:Walk W s t δ):e.d≤δ:=by
 rcases h.claim hw with⟨h1,_⟩ | ⟨q,hq,c2,hw2,hle⟩
 ·rw [h.noT] at h1;contradiction
 ·have hfq:q.f≤q.d+c2:=by
   rcases(h.ent q hq).2 with⟨_,_,_,h4,_⟩ | ⟨u,c,ce,_,_,_,_,h5,_⟩
   ·exact nt240 ‹_› h4
   ·have:=adm q.v c2 hw2;exact nt308 h5 this
  have hef:e.d≤e.f:=by
   rcases(h.ent e (.head _)).2 with⟨_,h2,_,_⟩ | ⟨u,c,ce,_,_,_,_,h5,_⟩ <;> lia
  have hmin:e.f≤q.f:=by
   rcases List.mem_cons.mp hq with rfl | hq
   ·exact Nat.le_refl _
   ·exact hl q hq
  exact nt351 hle hfq hef hmin
inductive Back (W:WRel) (ex:Nat→Option (Option Nat)) (s:Nat):Nat→List Nat→Nat→Prop where
 | src:ex s=some none→Back W ex s s [s] 0
 | step {u x c l d}:ex x=some (some u)→W u x c→Back W ex s u l d→Back W ex s x (x::l) (d+c)
theorem AOk.back (h:AOk n s t W hf Q enq ex g tm T b v R):∀(k j x:Nat),g x≤k→(g x=k→tm x≤j)→(ex x).isSome=true→∃l d,Back W ex s x l d∧d≤g x:=by
 intro k
 induction k using Nat.strongRecOn with
 | _ k ihk=>
  intro j
  induction j using Nat.strongRecOn with
  | _ j ihj=>
   intro x hk hj hx
   obtain⟨p,hp⟩:=Option.isSome_iff_exists.mp hx
   have hs:ex s=some none∧g s=0:=by
    rcases h.src with⟨_,_,h1⟩ | h1
    ·rw [h1] at hx;contradiction
    ·exact h1
   rcases(h.exOk x p hp).2 with rfl | ⟨u,c,e,hh,rfl,hu,hw,hg,hlt,_⟩
   ·exact⟨_,0,.src hs.1,Nat.zero_le _⟩
   ·have:∃l d,Back W ex s u l d∧d≤g u:=by
     by_cases q:g u<k
     ·exact ihk (g u) q (tm u) u (Nat.le_refl _) (fun _=>Nat.le_refl _) hu
     ·have e1:g u=k:=nt322 hk hg q
      have e2:g x=k:=nt321 hk hg e1
      have e3:tm u<tm x:=by
       rcases hlt with z | z
       ·exact nt340 e1 e2 z
       ·exact z
      have:=hj e2
      exact ihj (tm u) (nt232 e3 this) u (nt157 e1) (fun _=>Nat.le_refl _) hu
    obtain⟨l,d,hb,hd⟩:=this
    exact⟨_,_,.step hp hw hb,by exact nt295 hg hd⟩
theorem AOk.backOf (h:AOk n s t W hf Q enq ex g tm T b v R) {x:Nat} (hx:(ex x).isSome=true):∃l d,Back W ex s x l d∧d≤g x:=h.back (g x) (tm x) x (Nat.le_refl _) (fun _=>Nat.le_refl _) hx
theorem AOk.skip {e:AE} (h:AOk n s t W hf (e::Q) enq ex g tm T b v (fun _=>True)) (hx:(ex e.v).isSome=true) (hs:e.v=s∨∃ce hh,enq e.v=some (ce,hh)∧ce<e.d):AOk n s t W hf Q enq ex g tm T b v (fun _=>True):=by
 have hsrc:ex s=some none∧g s=0:=by
  rcases h.src with⟨_,_,h1⟩ | h1
  ·rw [h1] at hx;contradiction
  ·exact h1
 refine⟨fun q hq=>h.ent q (.tail _ hq),fun x c k hk=>?_,.inr hsrc,h.exOk,h.rel,h.noT,h.clock,(List.nodup_cons.mp h.uniq).2,fun q hq=>h.fresh q (.tail _ hq),h.bound.1,fun q hq=>h.bound.2.1 q (.tail _ hq),h.bound.2.2⟩
 obtain⟨h1,h2,⟨q,hq,e1,e2⟩ | h3 | ⟨h3,h4⟩⟩:=h.enqOk x c k hk
 ·rcases List.mem_cons.mp hq with rfl | hq
  ·refine⟨h1,h2,?_⟩
   rcases hs with hs | ⟨ce,hh,e3,e4⟩
   ·exact .b (e1.symm.trans hs)
   ·rw [e1,hk] at e3;obtain e300:=Option.some.inj e3;obtain⟨rfl,rfl⟩:=Prod.mk.inj e300;exact(nt159 e2 e4).elim
  ·exact⟨h1,h2,.a q hq e1 e2⟩
 ·exact⟨h1,h2,.b h3⟩
 ·exact⟨h1,h2,.c h3 h4⟩
theorem AOk.explore {e:AE} (h:AOk n s t W hf (e::Q) enq ex g tm T b v (fun _=>True)) (hirr:∀x c,¬W x x c) (het:e.v≠t) (hnew:ex e.v=none∨(e.v≠s∧∃ce hh,enq e.v=some (ce,hh)∧¬ce<e.d)):
  AOk n s t W hf Q enq (upd ex e.v e.p) (fun x=>if x=e.v then e.d else g x) (fun x=>if x=e.v then T else tm x) (T+1) b e.v (fun _=>False):=by
 have hu:=List.nodup_cons.mp h.uniq
 have hne:∀q∈Q,q.v=e.v→q.d≠e.d:=fun q hq e1 e2=>hu.1 (List.mem_map.mpr ⟨q,hq,by rw [e1,e2]⟩)
 have hE:=(h.ent e (.head _)).2
 have hvn:=(h.ent e (.head _)).1
 have hlt:(ex e.v).isSome=true→e.d<g e.v:=fun hx=>by
  rcases hnew with q | ⟨hs,ce,hh,e1,e2⟩
  ·rw [q] at hx;contradiction
  ·obtain⟨p,hp⟩:=Option.isSome_iff_exists.mp hx
   rcases(h.exOk _ p hp).2 with q | ⟨_,_,e',h',_,_,_,_,_,e3,e4⟩
   ·exact absurd q hs
   ·rw [e1] at e3;obtain e300:=Option.some.inj e3;obtain⟨rfl,rfl⟩:=Prod.mk.inj e300
    have:=h.fresh e (.head _) hs hx
    exact nt285 e2 e4 this
 have gle:∀u,(ex u).isSome=true→(if u=e.v then e.d else g u)≤g u:=fun u hu=>by
  split
  ·rename_i q;subst q;exact Nat.le_of_lt (hlt hu)
  ·exact Nat.le_refl _
 have exs:∀u,(ex u).isSome=true→(upd ex e.v e.p u).isSome=true:=fun u hu=>by
  by_cases q:u=e.v
  ·rw [q,upd_self];rfl
  ·rw [upd_ne q];exact hu
 have hsrc:(upd ex e.v e.p s=some none∧(if s=e.v then e.d else g s)=0)∧(ex s=none→Q = []):=by
  rcases h.src with⟨h1,_,h3⟩ | ⟨h1,h2⟩
  ·rcases hE with⟨e1,e2,e3,e4,_⟩ | ⟨u,_,_,_,hu',_⟩
   ·refine⟨⟨by rw [e1,upd_self,e3],by rw [e1,if_pos rfl,e2]⟩,fun _=>?_⟩
    cases Q with
    | nil=>rfl
    | cons q r=>
     exfalso
     rcases(h.ent q (.tail _ (.head _))).2 with⟨f1,f2,_⟩ | ⟨u,_,_,_,hu',_⟩
     ·exact hne q (.head _) (f1.trans e1.symm) (f2.trans e2.symm)
     ·rw [h3] at hu';contradiction
   ·rw [h3] at hu';contradiction
  ·have q:s≠e.v:=fun q=>by
    rcases hnew with z | z
    ·rw [←q,h1] at z;contradiction
    ·exact z.1 q.symm
   exact⟨⟨by rw [upd_ne q];exact h1,by rw [if_neg q];exact h2⟩,fun z=>by rw [h1] at z;contradiction⟩
 refine⟨fun q hq=>⟨(h.ent q (.tail _ hq)).1,?_⟩,fun x c k hk=>?_,.inr hsrc.1,fun x p hx=>?_,fun x hx w c hw hr=>?_,by rw [upd_ne (Ne.symm het)];exact h.noT,fun x=>?_,hu.2,fun q hq hs hx=>?_,h.bound.1,fun q hq=>h.bound.2.1 q (.tail _ hq),fun x hx=>?_⟩
 ·rcases(h.ent q (.tail _ hq)).2 with⟨_,_,_,_,f5⟩ | ⟨u,c,ce,f1,f2,f3,f4,f5,f6,f7⟩
  ·rw [hsrc.2 f5] at hq;exact absurd hq List.not_mem_nil
  ·exact .b u c ce f1 (exs u f2) f3 (by have:=gle u f2;show(if u=e.v then e.d else g u)+c≤q.d;exact nt350 f4 f5 this) f5 f6 f7
 ·obtain⟨h1,h2,h3⟩:=h.enqOk x c k hk
  refine⟨h1,h2,?_⟩
  rcases h3 with⟨q,hq,e1,e2⟩ | h3 | ⟨h3,h4⟩
  ·rcases List.mem_cons.mp hq with rfl | hq
   ·exact .c (by rw [←e1,upd_self];rfl) (by rw [if_pos e1.symm];exact e2)
   ·exact .a q hq e1 e2
  ·exact .b h3
  ·refine .c (exs x h3) ?_
   by_cases q:x=e.v
   ·exfalso
    subst q
    have hl:=hlt h3
    rcases hE with⟨e1,_,_,_,e5⟩ | ⟨_,_,ce,_,_,_,_,_,e6,e7⟩
    ·rw [e1,e5] at h3;contradiction
    ·rw [hk] at e6;obtain e600:=Option.some.inj e6;obtain⟨rfl,rfl⟩:=Prod.mk.inj e600;exact nt337 h4 hl ‹_› e7
   ·rw [if_neg q];exact h4
 ·by_cases q:x=e.v
  ·subst q
   rw [upd_self] at hx
   obtain rfl:=Option.some.inj hx
   refine⟨hvn,?_⟩
   rcases hE with⟨e1,_⟩ | ⟨u,c,ce,e1,e2,e3,e4,e5,e6,e7⟩
   ·exact .a e1
   ·have hue:u≠e.v:=fun z=>hirr _ c (z▸e3)
    refine .b u c ce _ e1 (exs u e2) e3 ?_ (.inr ?_) e6 ?_
    ·rw [if_neg hue,if_pos rfl];exact e4
    ·rw [if_neg hue,if_pos rfl];exact h.clock u
    ·rw [if_pos rfl];exact e7
  ·rw [upd_ne q] at hx
   obtain⟨hxn,z⟩:=h.exOk x p hx
   refine⟨hxn,?_⟩
   rcases z with z | ⟨u,c,e',hh,e1,e2,e3,e4,e5,e6,e7⟩
   ·exact .a z
   refine .b u c e' hh e1 (exs u e2) e3 ?_ ?_ e6 ?_
   ·rw [if_neg q];have:=gle u e2;exact nt295 e4 this
   ·rw [if_neg q,if_neg q]
    by_cases z:u=e.v
    ·rw [if_pos z]
     have:=hlt (z▸e2)
     rw [z] at e4
     exact .inl (nt294 e4 this)
    ·rw [if_neg z,if_neg z];exact e5
   ·rw [if_neg q];exact e7
 ·by_cases q:x=e.v
  ·exact(hr q).elim
  ·rw [upd_ne q] at hx
   rw [if_neg q]
   exact h.rel x hx w c hw fun _=>trivial
 ·split
  ·exact Nat.lt_succ_self _
  ·exact Nat.lt_succ_of_lt (h.clock x)
 ·by_cases z:q.v=e.v
  ·rw [if_pos z];exact hne q hq z
  ·rw [if_neg z];rw [upd_ne z] at hx;exact h.fresh q (.tail _ hq) hs hx
 ·by_cases q:x=e.v
  ·rw [if_pos q];exact h.bound.2.1 e (.head _)
  ·rw [if_neg q];rw [upd_ne q] at hx;exact h.bound.2.2 x hx
theorem AOk.pass {w:Nat} (h:AOk n s t W hf Q enq ex g tm T b v R) (hw:∀c,W v w c→∃e hh,enq w=some (e,hh)∧e≤g v+c):AOk n s t W hf Q enq ex g tm T b v (fun y=>R y∨y=w):=by
 refine⟨h.ent,h.enqOk,h.src,h.exOk,fun x hx y c hy hr=>?_,h.noT,h.clock,h.uniq,h.fresh,h.bound⟩
 by_cases q:x=v
 ·rcases hr q with r | rfl
  ·exact h.rel x hx y c hy fun _=>r
  ·subst q;obtain⟨e,hh,h1,h2⟩:=hw c hy;exact .b e hh h1 h2
 ·exact h.rel x hx y c hy fun e=>absurd e q
theorem AOk.push {w c m b':Nat} (h:AOk n s t W hf Q enq ex g tm T b v R) (hv:(ex v).isSome=true) (hw:W v w c) (hu:∀c',W v w c'→c'=c) (hn:w<n) (hlt:∀ce hh,enq w=some (ce,hh)→g v+c<ce) (hb:b≤b') (hb2:g v+c≤b'):
  AOk n s t W hf (⟨g v+c+hf w,m,w,g v+c,some v⟩::Q) (upd enq w (g v+c,hf w)) ex g tm T b' v (fun y=>R y∨y=w):=by
 have hs:ex s=some none∧g s=0:=by
  rcases h.src with⟨_,_,h1⟩ | h1
  ·rw [h1] at hv;contradiction
  ·exact h1
 have low:∀x e hh,enq x=some (e,hh)→∃e' hh',upd enq w (g v+c,hf w) x=some (e',hh')∧e'≤e∧(x≠w→e'=e):=fun x e hh hx=>by
  by_cases q:x=w
  ·subst q;exact⟨_,_,upd_self,Nat.le_of_lt (hlt e hh hx),fun z=>absurd rfl z⟩
  ·exact⟨e,hh,by rw [upd_ne q];exact hx,Nat.le_refl _,fun _=>rfl⟩
 refine⟨fun q hq=>?_,fun x e k hx=>?_,.inr hs,fun x p hx=>?_,fun x hx y c' hy hr=>?_,h.noT,h.clock,?_,fun q hq hqs hx=>?_,fun x e k hx=>?_,fun q hq=>?_,fun x hx=>Nat.le_trans (h.bound.2.2 x hx) hb⟩
 ·rcases List.mem_cons.mp hq with rfl | hq
  ·exact⟨hn,.b v c _ rfl hv hw (Nat.le_refl _) rfl upd_self (Nat.le_refl _)⟩
  ·refine⟨(h.ent q hq).1,?_⟩
   rcases(h.ent q hq).2 with⟨_,_,_,_,f5⟩ | ⟨u,c',ce,f1,f2,f3,f4,f5,f6,f7⟩
   ·rw [hs.1] at f5;contradiction
   ·obtain⟨e',hh',g1,g2,_⟩:=low _ _ _ f6
    refine .b u c' e' f1 f2 f3 f4 f5 ?_ (nt335 f5 f7 g2)
    by_cases z:q.v=w
    ·rw [z,upd_self] at g1 ⊢;obtain g100:=Option.some.inj g1;obtain⟨rfl,rfl⟩:=Prod.mk.inj g100;rfl
    ·rw [upd_ne z] at g1 ⊢;rw [f6] at g1;obtain g100:=Option.some.inj g1;obtain⟨rfl,rfl⟩:=Prod.mk.inj g100;exact f6
 ·by_cases q:x=w
  ·subst q
   rw [upd_self] at hx
   obtain hx00:=Option.some.inj hx;obtain⟨rfl,rfl⟩:=Prod.mk.inj hx00
   exact⟨rfl,hn,.a _ (.head _) rfl rfl⟩
  ·rw [upd_ne q] at hx
   obtain⟨h1,h2,h3⟩:=h.enqOk x e k hx
   exact⟨h1,h2,h3.sub fun _=>.tail _⟩
 ·obtain⟨hxn,z⟩:=h.exOk x p hx
  refine⟨hxn,?_⟩
  rcases z with z | ⟨u,c',e',hh,e1,e2,e3,e4,e5,e6,e7⟩
  ·exact .a z
  obtain⟨e'',hh'',g1,g2,_⟩:=low _ _ _ e6
  exact .b u c' e'' hh'' e1 e2 e3 e4 e5 g1 (nt281 e7 g2)
 ·have old:LeN s enq y (g x+c')→LeN s (upd enq w (g v+c,hf w)) y (g x+c'):=fun z=>by
   rcases z with z | ⟨e,hh,h1,h2⟩
   ·exact .a z
   obtain⟨e'',hh'',g1,g2,_⟩:=low _ _ _ h1
   exact .b e'' hh'' g1 (nt317 h2 g2)
  by_cases q:x=v
  ·rcases hr q with r | rfl
   ·exact old (h.rel x hx y c' hy fun _=>r)
   ·subst q
    rw [hu c' hy]
    exact .b _ _ upd_self (Nat.le_refl _)
  ·exact old (h.rel x hx y c' hy fun e=>absurd e q)
 ·rw [List.map_cons]
  refine List.nodup_cons.mpr ⟨fun hm=>?_,h.uniq⟩
  obtain⟨q,hq,e⟩:=List.mem_map.mp hm
  have e1:q.v=w:=congrArg Prod.fst e
  have e2:q.d=g v+c:=congrArg Prod.snd e
  rcases(h.ent q hq).2 with⟨_,_,_,_,f5⟩ | ⟨u,c',ce,f1,f2,f3,f4,f5,f6,f7⟩
  ·rw [hs.1] at f5;contradiction
  ·rw [e1] at f6
   have:=hlt _ _ f6
   exact nt353 e2 f5 f7 this
 ·rcases List.mem_cons.mp hq with rfl | hq
  ·obtain⟨p,hp⟩:=Option.isSome_iff_exists.mp hx
   rcases(h.exOk _ p hp).2 with q | ⟨_,_,e',hh,_,_,_,_,_,e6,e7⟩
   ·exact absurd q hqs
   ·have:=hlt _ _ e6
    dsimp only at e7 ⊢
    exact nt320 e7 this
  ·exact h.fresh q hq hqs hx
 ·by_cases q:x=w
  ·subst q;rw [upd_self] at hx;obtain hx00:=Option.some.inj hx;obtain⟨rfl,rfl⟩:=Prod.mk.inj hx00;exact hb2
  ·rw [upd_ne q] at hx;exact Nat.le_trans (h.bound.1 x e k hx) hb
 ·rcases List.mem_cons.mp hq with rfl | hq
  ·exact hb2
  ·exact Nat.le_trans (h.bound.2.1 q hq) hb
end
section
set_option tactic.hygienic false
open PySem PySem.W PyProof.Rows
variable [GenI]
noncomputable def sAs:Stmt:=topSt 19
noncomputable def asW:List Stmt:=fnBody ((fnBody sAs).getD 9 (.Pass default))
noncomputable def asF:List Stmt:=fnBody (asW.getD 4 (.Pass default))
noncomputable def nmAs:List Str:=["G","source","target","heuristic","weight","cutoff","G_succ","c","queue","enqueued","explored","_","curnode","dist","parent","path","node","neighbor","w","cost","ncost","qcost","h"]
noncomputable def envAs (L:Addr) (cd:Value):Env:=envF sAs "astar_path" L 206 cd
theorem okAs {L:Addr} {cd:Value}:EnvOk (envAs L cd) L nmAs:= .of (by decide +kernel)
noncomputable def qAs:QK AE:=⟨(·.f),(·.c),fun e r=>∃tv td pv,r = [.int (e.v:Nat) tv,.int (e.d:Nat) td,pv]∧(optAv e.p).ok pv⟩
noncomputable def EnqR (B:PM) (enq:EQ) (kf:Nat→Option AV):Prop:=∀x,(enq x=none→kf x=none)∧∀e h,enq x=some (e,h)→∃t o te th,kf x=some (.val (.ref t))∧B t=some o∧TupO [.int (e:Nat) te,.int (h:Nat) th] o
theorem EnqR.le {B B':PM} {enq kf} (r:EnqR B enq kf) (h:B.le B'):EnqR B' enq kf:=fun x=>⟨(r x).1,fun e k hx=>by
 obtain⟨t,o,te,th,h1,h2,h3⟩:=(r x).2 e k hx;exact⟨t,o,te,th,h1,h _ _ h2,h3⟩⟩
theorem EnqR.isSome {B:PM} {enq kf} (r:EnqR B enq kf) (x:Nat):(kf x).isSome=(enq x).isSome:=by
 cases q:enq x with
 | none=>rw [(r x).1 q];rfl
 | some p=>obtain⟨e,h⟩:=p;obtain⟨t,o,te,th,h1,_⟩:=(r x).2 e h q;rw [h1];rfl
noncomputable def avAs (net hfa ad cn qa ea xa:Addr) (s t:Nat) (x11 x12 x13 x14 x15 x16 x17 x18 x19 x20 x21 x22:AV):List AV:=
 [.val (.ref net),.int (s:Nat),.int (t:Nat),.val (.ref hfa),.val (.ref 966),.val .none,.val (.ref ad),.val (.ref cn),.val (.ref qa),.val (.ref ea),.val (.ref xa),x11,x12,x13,x14,x15,x16,x17,x18,x19,x20,x21,x22]
noncomputable def frAs (prog:Program) (w:World) (n:Nat) (cn dc qa ea xa:Addr) (cnt:Nat) (xs:Array Value) (kf:Nat→Option AV) (ex:Nat→Option (Option Nat)):List (Addr×OP):=
 [(cn,CountO dc (cnt:Nat)),(qa,ListO xs),(ea,MapO prog w n kf),(xa,MapO prog w n (pAv ex))]
noncomputable def pot (enq:EQ) (x:Nat):Nat:=match enq x with | none=>31 | some p=>p.1
noncomputable def potS (n:Nat) (enq:EQ):Nat:=((List.range n).map (pot enq)).sum
theorem sum_upd {f f':Nat→Nat} {v:Nat} (hne:∀x,x≠v→f' x=f x) (hv:f' v+1≤f v):∀{l:List Nat},l.Nodup→v∈l→(l.map f').sum+1≤(l.map f).sum
 | [],_,h=>absurd h List.not_mem_nil
 | a::l,nd,h=>by
  have nd':=List.nodup_cons.mp nd
  rw [List.map_cons,List.map_cons,List.sum_cons,List.sum_cons]
  by_cases q:a=v
  ·subst q
   have:l.map f'=l.map f:=List.map_congr_left fun x hx=>hne x fun e=>nd'.1 (e▸hx)
   rw [this];exact nt212 hv
  ·have hm:v∈l:=by rcases List.mem_cons.mp h with e | e;exact absurd e.symm q;exact e
   have ih:=sum_upd hne hv nd'.2 hm
   rw [hne a q];exact nt213 ih
theorem potS_upd {n:Nat} {enq:EQ} {v:Nat} {p:Nat×Nat} (hn:v<n) (hv:p.1+1≤pot enq v):potS n (upd enq v p)+1≤potS n enq:=
 sum_upd (fun x hx=>by unfold pot;rw [upd_ne hx]) (by unfold pot;rw [upd_self];exact hv) List.nodup_range (List.mem_range.mpr hn)
noncomputable def fstE (enq:EQ):NM:=fun x=>(enq x).map (·.1)
noncomputable def bndE (n:Nat) (enq:EQ):Nat:=5*(n - undone n (fstE enq))
theorem fstE_upd {enq:EQ} {v:Nat} {p:Nat×Nat}:fstE (upd enq v p)=upd (fstE enq) v p.1:=by
 funext x;unfold fstE;by_cases q:x=v
 ·subst q;rw [upd_self,upd_self];rfl
 ·rw [upd_ne q,upd_ne q]
theorem undone_same {n:Nat} {D:NM} {v k:Nat} (hv:(D v).isSome=true):undone n (upd D v k)=undone n D:=by
 unfold undone
 apply List.countP_congr
 intro x hx
 by_cases q:x=v
 ·subst q;rw [upd_self];obtain⟨a,ha⟩:=Option.isSome_iff_exists.mp hv;rw [ha];rfl
 ·rw [upd_ne q]
noncomputable def HeurB (prog:Program) (w:World) (hfa:Addr) (n:Nat) (hf:Nat→Nat) (B0:PM):Prop:=
 (∃o fd,B0 hfa=some o∧o.data = .func fd)∧∀(A:Around) (B:PM) (ms:List (Addr×OP)) (h:Heap) (x:Nat) (tx:Tok) (v2:Value),B0.le B→Room A 3 20→x<n→St B ms h→Tr prog w A (call (.ref hfa) [.int (x:Nat) tx,v2]) h (fun v h'=>(∃t,v = .int (hf x:Nat) t)∧St B ms h') noX
theorem HeurB.le {prog w hfa n hf} {B B':PM} (H:HeurB prog w hfa n hf B) (h:B.le B'):HeurB prog w hfa n hf B':=by
 obtain⟨⟨o,fd,e,hd⟩,k⟩:=H
 exact⟨⟨o,fd,h _ _ e,hd⟩,fun A B2 ms hp x tx v2 hle=>k A B2 ms hp x tx v2 (PM.le_trans h hle)⟩
structure AsC (prog:Program) (w:World) (K:Frag) (B:PM) (hfa ad dc:Addr) (n:Nat) (E:Nat→Nat→Option (Option Nat)) (hf:Nat→Nat):Prop where
 F:BdF prog w K B
 heur:HeurB prog w hfa n hf B
 cnt:∃od,B dc=some od
 tab:TabB prog w B ad n E
theorem AsC.le {prog w K} {B B':PM} {hfa ad dc n E hf} (C:AsC prog w K B hfa ad dc n E hf) (h:B.le B'):AsC prog w K B' hfa ad dc n E hf:=by
 obtain⟨od,e⟩:=C.cnt
 exact⟨C.F.le h,C.heur.le h,⟨od,h _ _ e⟩,C.tab.le h⟩
structure AScan (B:PM) (n s t:Nat) (E:Nat→Nat→Option (Option Nat)) (hf:Nat→Nat) (xs:Array Value) (Q:List AE) (enq:EQ) (kf:Nat→Option AV) (ex:Nat→Option (Option Nat)) (g tm:Nat→Nat) (T cnt v k:Nat) (R:Nat→Prop):Prop where
 a:AOk n s t (WE E) hf Q enq ex g tm T (bndE n enq) v R
 dv:g v=k
 ev:(ex v).isSome=true
 q:QuB qAs B xs Q
 r:EnqR B enq kf
 c:∀e∈Q,e.c<cnt
section
variable {prog:Program} {w:World} {A:Around} {env:Env} {h:Heap} {X:Value→Heap→Prop} {P:Flow→Heap→Prop} {B:PM} {ms:List (Addr×OP)} {L:Addr} {nms:List Str} {avs:List AV} {pos:Pos} {K:Frag} {rest:List Stmt}
inductive StoP (prog:Program) (w:World) (A:Around) (env:Env) (X:Value→Heap→Prop) (P:Flow→Heap→Prop) (rest:List Stmt) (o i:PySem.Expr) (v:Value) (h1:Heap):Prop
 | mk (B:PM) (ms:List (Addr×OP)) (n k j:Nat) (f:Nat→Option AV) (a:Addr) (av:AV) (S:St B ms h1) (hj:ms[j]?=some (a,MapO prog w n f)) (hv:av.ok v) (ho:Ev prog w A env h1 o (.val (.ref a))) (hi:Ev prog w A env h1 i (.int k)) (hk:k<n) (hn:n≤6)
  (hx:∀h2,St B (ms.set j (a,MapO prog w n fun j=>if j=k then some av else f j)) h2→Tr prog w A (execs rest env) h2 P X)
theorem Cd.storeMT {o i e:PySem.Expr} {p1:Pos} {rest:List Stmt} {P:Flow→Heap→Prop}
  (he:Tr prog w A (eval e env) h (StoP prog w A env X P rest o i) X)
  (hs:swapsWith e (some (.Subscript o i p1)) pos.line env=pure false:=by rfl):Tr prog w A (execs (.Assign [.Subscript o i p1] e pos::rest) env) h P X:=by
 intro g d tk os Q E hg hq hE
 refine wpAny_execs_cons (wpAny_Assign_Subscript (he g d tk os _ E hg (fun v h1 g1 tk1 hg1 z=>?_) hE) hs)
 obtain⟨B,ms,n,k,j,f,a,av,S,hj,hv,ho,hi,hk,hn,hx⟩:=z
 refine ho g1 d tk1 os _ E fun ov tk2 hov=>hi g1 d tk2 os _ E fun iv tk3 hiv=>?_
 have ha':ov = .ref a:=hov
 obtain⟨t,rfl⟩:=hiv
 subst ha'
 obtain⟨ob,hob,kvs,hd,hb,hf⟩:=S.mem hj
 have hlen:=len_le_of hd.choose_spec.choose_spec.2.2.2.2 hb
 refine wpAny_setItem_pairs (intKind_is _ _ k t) (dictO_iff.mpr ⟨ob,hob,hd⟩) (fun h' hd' hs'=>?_) (by rw [sizeLine_eq];exact nt177 hn hlen)
 obtain⟨o',ho',hd''⟩:=dictO_iff.mp hd'
 exact hx h' (S.upd hj hs' ho' (MapO.stored hk hv hd'' hb hf)) g1 d _ os Q E hg1 hq hE
theorem asF_ok {A:Around} {cd:Value} {n s t cnt v k x lim:Nat} {net hfa ad cn dc qa ea xa da I:Addr} {q:OP} {tail:List (Addr×OP)} {E:Nat→Nat→Option (Option Nat)} {hf:Nat→Nat} {xs:Array Value} {Q:List AE} {enq:EQ} {kf:Nat→Option AV} {ex:Nat→Option (Option Nat)} {g tm:Nat→Nat} {T:Nat} {x11 x14 x15 x16 x19 x20 x21 x22:AV} {R:Nat→Prop} {oc:Option Nat} {od:Obj}
  (Rm:Room A 10 100) (hn:n≤6) (hw5:∀x y c,E x y=some (some c)→c≤5) (C:AsC prog w K B hfa ad dc n E hf) (H:AScan B n s t E hf xs Q enq kf ex g tm T cnt v k R) (hlim:Q.length+2*potS n enq≤lim) (hl2:lim<2000)
  (hx:x<n) (hE:E v x=some oc) (hda:B da=some od) (hD:DataO prog w oc od) (hdm:(da == sysModules)=false)
  (S:St B ((L,FrameO nmAs (avAs net hfa ad cn qa ea xa s t x11 (.int (v:Nat)) (.int (k:Nat)) x14 x15 x16 (.int (x:Nat)) (.val (.ref da)) x19 x20 x21 x22))::(frAs prog w n cn dc qa ea xa cnt xs kf ex++(I,q)::tail)) h)
  (kP:∀f h' B' cnt' xs' Q' enq' kf' y19 y20 y21 y22,(f = .next∨f = .cont)→B.le B'→
   St B' ((L,FrameO nmAs (avAs net hfa ad cn qa ea xa s t x11 (.int (v:Nat)) (.int (k:Nat)) x14 x15 x16 (.int (x:Nat)) (.val (.ref da)) y19 y20 y21 y22))::(frAs prog w n cn dc qa ea xa cnt' xs' kf' ex++(I,q)::tail)) h'→
   AScan B' n s t E hf xs' Q' enq' kf' ex g tm T cnt' v k (fun y=>R y∨y=x)→Q'.length+2*potS n enq'≤lim→P f h'):
  Tr prog w A (execs asF (envAs L cd)) h P X:=by
 have O:EnvOk (envAs L cd) L nmAs:=okAs
 obtain⟨odc,hodc⟩:=C.cnt
 have pass:(∀c,oc=some c→∃e hh,enq x=some (e,hh)∧e≤k+c)→AScan B n s t E hf xs Q enq kf ex g tm T cnt v k (fun y=>R y∨y=x):=fun hp=>
  ⟨H.a.pass fun c hc=>by
   have hc:E v x=some (some c):=hc
   rw [hE] at hc;rw [H.dv];exact hp c (Option.some.inj hc),H.dv,H.ev,H.q,H.r,H.c⟩
 have push:∀c,oc=some c→(∀ce hh,enq x=some (ce,hh)→k+c<ce)→∀{h5:Heap} {z21:AV},St B ((L,FrameO nmAs (avAs net hfa ad cn qa ea xa s t x11 (.int (v:Nat)) (.int (k:Nat)) x14 x15 x16 (.int (x:Nat)) (.val (.ref da)) (.int (c:Nat)) (.int ((k+c:Nat):Int)) z21 (.int (hf x:Nat))))::(frAs prog w n cn dc qa ea xa cnt xs kf ex++(I,q)::tail)) h5→
   Tr prog w A (execs (asF.drop 4) (envAs L cd)) h5 P X:=by
  intro c hoc hlt h5 z21 S5
  subst hoc
  refine Cd.ifF (Et.eq (.bool (.and (b2:=true) (.none (.name O S5 5 rfl rfl)) fun q=>absurd q (by decide))) rfl) ?_
  have hwe:WE E v x c:=hE
  have ecast:((cnt:Nat):Int)+1=((cnt+1:Nat):Int):=by push_cast;rfl
  refine Cd.storeMT (.tupleD (.evE (.name O S5 20 rfl rfl) fun v1 hv1=>.evE (.name O S5 22 rfl rfl) fun v2 hv2=>.evNil ⟨few (by exact Nat.le_of_ble_eq_true rfl),?_⟩))
  obtain⟨t1,rfl⟩:=hv1
  obtain⟨t2,rfl⟩:=hv2
  have hle:B.le (B.put h5.objs.size { cls:= .type "tuple",data:= .seq [Value.int ((k+c:Nat):Int) t1,.int (hf x:Nat) t2].toArray}):=PM.le_put (S5.notB_of_none (St.push_none h5))
  have S6:=S5.pushB (o:={ cls:= .type "tuple",data:= .seq [Value.int ((k+c:Nat):Int) t1,.int (hf x:Nat) t2].toArray})
  revert hle S6
  generalize hB':B.put h5.objs.size { cls:= .type "tuple",data:= .seq [Value.int ((k+c:Nat):Int) t1,.int (hf x:Nat) t2].toArray} =B1
  intro hle S6
  have hput:B1 h5.objs.size=some { cls:= .type "tuple",data:= .seq [Value.int ((k+c:Nat):Int) t1,.int (hf x:Nat) t2].toArray}:=by rw [←hB'];exact PM.put_self
  refine⟨B1,_,n,x,3,kf,ea,.val (.ref h5.objs.size),S6,rfl,rfl,.name O S6 9 rfl rfl,.name O S6 17 rfl rfl,hx,hn,fun h7 S7=>?_⟩
  have eK:(fun j=>if j=x then some (AV.val (.ref h5.objs.size))else kf j)=upd kf x (AV.val (.ref h5.objs.size)):=rfl
  rw [eK] at S7
  have S7:St B1 ((L,FrameO nmAs (avAs net hfa ad cn qa ea xa s t x11 (.int (v:Nat)) (.int (k:Nat)) x14 x15 x16 (.int (x:Nat)) (.val (.ref da)) (.int (c:Nat)) (.int ((k+c:Nat):Int)) z21 (.int (hf x:Nat))))::(frAs prog w n cn dc qa ea xa cnt xs (upd kf x (AV.val (.ref h5.objs.size))) ex++(I,q)::tail)) h7:=S7
  have C1:=C.le hle
  have R1:EnqR B1 (upd enq x (k+c,hf x)) (upd kf x (AV.val (.ref h5.objs.size))):=by
   intro y
   by_cases e:y=x
   ·subst e
    rw [upd_self,upd_self]
    exact⟨fun e=>(by contradiction),fun e h e2=>(by obtain e200:=Option.some.inj e2;obtain⟨rfl,rfl⟩:=Prod.mk.inj e200;exact⟨_,_,t1,t2,rfl,hput,rfl,_,rfl⟩)⟩
   ·rw [upd_ne e,upd_ne e];exact(H.r.le hle) y
  have hodc1:=hle _ _ hodc
  refine Cd.expr (.callName (.g O S7 C1.F.gPush) (.evE (.name O S7 8 rfl rfl) fun v0 hv0=>.evCons (.tupleD (.evE (.eqI (i:=((k+c+hf x:Nat):Int)) (.add (.name O S7 20 rfl rfl) (.name O S7 22 rfl rfl)) (by push_cast;rfl)) fun v1 hv1=>.evCons (.callName (.g O S7 C1.F.gNext) (.evE (.name O S7 7 rfl rfl) fun v2 hv2=>.evNil ⟨.builtin,?_⟩))))))
  have hv0':v0 = .ref qa:=hv0
  have hv2':v2 = .ref cn:=hv2
  subst hv0' hv2'
  refine(Tr.next (Rm.le (by decide) (by decide)) C1.F.inK C1.F.cF S7 (j:=1) rfl hodc1).post fun vc h8 zq0=>?_
  obtain⟨⟨tc,hvc⟩,S8⟩:=zq0
  rw [ecast] at S8
  have S8:St B1 ((L,FrameO nmAs (avAs net hfa ad cn qa ea xa s t x11 (.int (v:Nat)) (.int (k:Nat)) x14 x15 x16 (.int (x:Nat)) (.val (.ref da)) (.int (c:Nat)) (.int ((k+c:Nat):Int)) z21 (.int (hf x:Nat))))::(frAs prog w n cn dc qa ea xa (cnt+1) xs (upd kf x (AV.val (.ref h5.objs.size))) ex++(I,q)::tail)) h8:=S8
  refine .evE (.name O S8 17 rfl rfl) fun v3 hv3=>.evE (.name O S8 20 rfl rfl) fun v4 hv4=>.evE (.name O S8 12 rfl rfl) fun v5 hv5=>.evNil ⟨few (by exact Nat.le_of_ble_eq_true rfl),.evNil ⟨.builtin,?_⟩⟩
  obtain⟨u1,rfl⟩:=hv1
  obtain⟨u3,rfl⟩:=hv3
  obtain⟨u4,rfl⟩:=hv4
  obtain⟨u5,rfl⟩:=hv5
  subst hvc
  have hle2:B1.le (B1.put h8.objs.size { cls:= .type "tuple",data:= .seq [Value.int ((k+c+hf x:Nat):Int) u1,.int (cnt:Nat) tc,.int (x:Nat) u3,.int ((k+c:Nat):Int) u4,.int (v:Nat) u5].toArray}):=PM.le_put (S8.notB_of_none (St.push_none h8))
  have S9:=S8.pushB (o:={ cls:= .type "tuple",data:= .seq [Value.int ((k+c+hf x:Nat):Int) u1,.int (cnt:Nat) tc,.int (x:Nat) u3,.int ((k+c:Nat):Int) u4,.int (v:Nat) u5].toArray})
  revert hle2 S9
  generalize hB2:B1.put h8.objs.size { cls:= .type "tuple",data:= .seq [Value.int ((k+c+hf x:Nat):Int) u1,.int (cnt:Nat) tc,.int (x:Nat) u3,.int ((k+c:Nat):Int) u4,.int (v:Nat) u5].toArray} =B2
  intro hle2 S9
  have hput2:B2 h8.objs.size=some { cls:= .type "tuple",data:= .seq [Value.int ((k+c+hf x:Nat):Int) u1,.int (cnt:Nat) tc,.int (x:Nat) u3,.int ((k+c:Nat):Int) u4,.int (v:Nat) u5].toArray}:=by rw [←hB2];exact PM.put_self
  have C2:=C1.le hle2
  have hleB:=PM.le_trans hle hle2
  have ent:EntB qAs B2 (.ref h8.objs.size) ⟨k+c+hf x,cnt,x,k+c,some v⟩:=⟨_,_,u1,tc,_,rfl,hput2,⟨rfl,_,rfl⟩,u3,u4,_,rfl,u5,rfl⟩
  refine Tr.heappush (q:=qAs) (Rm.le (by decide) (by decide)) S9 (j:=2) rfl (H.q.le hleB) ent (fun hm=>?_) (nt217 hlim hl2) fun ys Q' h10 S10 q10 p10=>?_
  ·obtain⟨e,he,hc⟩:=List.mem_map.mp hm
   have:=H.c e he
   have hc':e.c=cnt:=hc
   exact nt145 this hc'
  have S10:St B2 ((L,FrameO nmAs (avAs net hfa ad cn qa ea xa s t x11 (.int (v:Nat)) (.int (k:Nat)) x14 x15 x16 (.int (x:Nat)) (.val (.ref da)) (.int (c:Nat)) (.int ((k+c:Nat):Int)) z21 (.int (hf x:Nat))))::(frAs prog w n cn dc qa ea xa (cnt+1) ys (upd kf x (AV.val (.ref h5.objs.size))) ex++(I,q)::tail)) h10:=S10
  have hb:bndE n enq≤bndE n (upd enq x (k+c,hf x))∧k+c≤bndE n (upd enq x (k+c,hf x)):=by
   have hc5:=hw5 _ _ _ hE
   have hk:k≤bndE n enq:=by have:=H.a.bound.2.2 v H.ev;rw [H.dv] at this;exact this
   unfold bndE at hk ⊢
   rw [fstE_upd]
   show 5*(n - undone n (fstE enq))≤5*(n - undone n (upd (fstE enq) x (k+c)))∧k+c≤5*(n - undone n (upd (fstE enq) x (k+c)))
   cases hq:enq x with
   | none=>
    have:=undone_upd (n:=n) (D:=fstE enq) (v:=x) (k:=k+c) (by unfold fstE;rw [hq];rfl) hx
    have:=undone_le (n:=n) (D:=fstE enq)
    constructor <;> omega
   | some p=>
    obtain⟨ce,hh⟩:=p
    have h1:=hlt ce hh hq
    have h2:=H.a.bound.1 x ce hh hq
    unfold bndE at h2
    rw [undone_same (by unfold fstE;rw [hq];rfl)]
    constructor <;> lia
  have hA:=H.a.push (c:=c) (m:=cnt) (b':=bndE n (upd enq x (k+c,hf x))) H.ev hwe (fun c' hc=>by have hc:E v x=some (some c'):=hc;rw [hE] at hc;obtain hc00:=Option.some.inj hc;obtain rfl:=Option.some.inj hc00;rfl) hx (by rw [H.dv];exact hlt) hb.1 (by rw [H.dv];exact hb.2)
  rw [H.dv] at hA
  refine Cd.nil (kP _ _ _ _ _ _ _ _ _ _ _ _ (.inl rfl) hleB S10 ⟨hA.perm p10,H.dv,H.ev,q10,R1.le hle2,fun e he=>?_⟩ ?_)
  ·rcases List.mem_cons.mp (p10.mem_iff.mp he)with rfl | he
   ·exact Nat.lt_succ_self _
   ·exact Nat.lt_succ_of_lt (H.c e he)
  ·have hp:potS n (upd enq x (k+c,hf x))+1≤potS n enq:=potS_upd hx (by
    have:=hb.2
    unfold pot
    cases hq:enq x with
    | none=>show k+c+1≤31;unfold bndE at this;exact nt343 hn hx this
    | some p=>obtain⟨ce,hh⟩:=p;exact hlt ce hh hq)
   rw [p10.length_eq,List.length_cons];exact nt292 hlim hp
 refine Cd.assign O 19 rfl (.callName (.name O S 4 rfl rfl) (.evE (.name O S 12 rfl rfl) fun v1 hv1=>.evE (.name O S 17 rfl rfl) fun v2 hv2=>.evE (.name O S 18 rfl rfl) fun v3 hv3=>.evNil ⟨Kp.ofFn S C.F.lw,?_⟩))
 have hv3':v3 = .ref da:=hv3
 subst hv3'
 refine(lw_ok (Rm.le (by decide) (by decide)) C.F.lw C.F.lim S hda hD hdm).post fun v' h2 ⟨hv',S2⟩=>⟨_,_,_,wAv oc,S2,hv',fun h3 S3=>?_⟩
 cases oc with
 | none=>
  refine Cd.ifT (Et.eq (.cmp (.name O S3 19 rfl rfl) .cNone .isNone) rfl) ?_
  exact Cd.cont (kP _ _ _ _ _ _ _ _ _ _ _ _ (.inr rfl) (PM.le_refl _) S3 (pass fun c hc=>by contradiction) hlim)
 | some c=>
  refine Cd.ifF (Et.eq (.cmp (.name O S3 19 rfl rfl) .cNone .isNone) rfl) ?_
  refine Cd.assignE O S3 20 rfl (av:= .int ((k+c:Nat):Int)) (.eqI (.add (.name O S3 13 rfl rfl) (.name O S3 19 rfl rfl)) (by push_cast;rfl)) fun h4 S4=>?_
  obtain⟨oE,hoE,mE⟩:=S4.mem (i:=3) rfl
  have meA:=notMods_of S4 (j:=3) rfl
  cases hq:enq x with
  | none=>
   refine Cd.ifF (Et.eq (.cmp (.name O S4 17 rfl rfl) (.name O S4 9 rfl rfl) (.inM hoE mE meA)) (by rw [H.r.isSome,hq];rfl)) ?_
   refine Cd.assign O 22 rfl (.callName (.name O S4 3 rfl rfl) (.evE (.name O S4 17 rfl rfl) fun v1 hv1=>.evE (.name O S4 2 rfl rfl) fun v2 hv2=>.evNil ⟨?_,?_⟩))
   ·obtain⟨⟨o,fd,e1,e2⟩,_⟩:=C.heur
    exact .fn (S4.keep _ _ e1) e2
   ·obtain⟨tx,rfl⟩:=hv1
    refine(C.heur.2 A B _ h4 x tx v2 (PM.le_refl _) (Rm.le (by decide) (by decide)) hx S4).noE.post fun v' h5 ⟨hv,S5⟩=>⟨_,_,_,.int (hf x:Nat),S5,hv,fun h6 S6=>?_⟩
    exact push c rfl (fun ce hh e=>by rw [hq] at e;contradiction) S6
  | some p=>
   obtain⟨ce,hh⟩:=p
   refine Cd.ifT (Et.eq (.cmp (.name O S4 17 rfl rfl) (.name O S4 9 rfl rfl) (.inM hoE mE meA)) (by rw [H.r.isSome,hq];rfl)) ?_
   obtain⟨tu,ou,te,th,hk1,hk2,hk3⟩:=(H.r x).2 ce hh hq
   have hhf:hh=hf x:=(H.a.enqOk x ce hh hq).1
   refine Cd.asgCall O Rm.hh (by decide) (.ofEv (.subM (.name O S4 9 rfl rfl) (.name O S4 17 rfl rfl) hoE mE hk1) fun v' hv'=>⟨_,_,_,tu,_,hv',S4,isTuple_of (S4.keep _ _ hk2) hk3,[(21,"qcost",.int (ce:Nat) te,.int (ce:Nat)),(22,"h",.int (hh:Nat) th,.int (hh:Nat))],⟨[_,_],rfl,rfl⟩,rfl,fun p hp=>?_,fun h5 S5=>?_⟩)
   ·rcases List.mem_cons.mp hp with rfl | hp
    ·exact⟨rfl,te,rfl⟩
    ·rw [List.mem_singleton.mp hp];exact⟨rfl,th,rfl⟩
   have S5:St B ((L,FrameO nmAs (avAs net hfa ad cn qa ea xa s t x11 (.int (v:Nat)) (.int (k:Nat)) x14 x15 x16 (.int (x:Nat)) (.val (.ref da)) (.int (c:Nat)) (.int ((k+c:Nat):Int)) (.int (ce:Nat)) (.int (hh:Nat))))::(frAs prog w n cn dc qa ea xa cnt xs kf ex++(I,q)::tail)) h5:=S5
   refine Cd.ifB (b:=decide (ce≤k+c)) (Et.eq (.cmp (.name O S5 21 rfl rfl) (.name O S5 20 rfl rfl) .le) (by simp;exact nt201)) (fun hb=>?_) (fun hb=>?_)
   ·exact Cd.cont (kP _ _ _ _ _ _ _ _ _ _ _ _ (.inr rfl) (PM.le_refl _) S5 (pass fun c' hc=>by obtain rfl:=Option.some.inj hc;exact⟨ce,hh,hq,of_decide_eq_true hb⟩) hlim)
   ·have hb':=of_decide_eq_false hb
    rw [hhf] at S5
    exact push c rfl (fun ce' hh' e=>by rw [hq] at e;obtain e00:=Option.some.inj e;obtain⟨rfl,rfl⟩:=Prod.mk.inj e00;exact nt287 hb') S5
end
end
section
set_option tactic.hygienic false
open PySem PySem.W PyProof.Rows
variable [GenI]
section
variable {prog:Program} {w:World} {A:Around} {env:Env} {h:Heap} {X:Value→Heap→Prop} {P:Flow→Heap→Prop} {B:PM} {ms:List (Addr×OP)} {L:Addr} {nms:List Str} {avs:List AV} {pos:Pos} {K:Frag}
inductive AsJ (prog:Program) (w:World) (B:PM) (net hfa ad cn dc qa ea xa:Addr) (n s t v k lim T:Nat) (x11 x14 x15 x16:AV) (E:Nat→Nat→Option (Option Nat)) (hf:Nat→Nat) (ex:Nat→Option (Option Nat)) (g tm:Nat→Nat) (kvs:List (Int×Value)) (i:Nat) (B':PM) (front:List (Addr×OP)) (avs:List AV):Prop
 | mk (cnt':Nat) (xs':Array Value) (Q':List AE) (enq':EQ) (kf':Nat→Option AV) (y17 y18 y19 y20 y21 y22:AV) (R:Nat→Prop) (hf':front=frAs prog w n cn dc qa ea xa cnt' xs' kf' ex)
   (ha:avs=avAs net hfa ad cn qa ea xa s t x11 (.int (v:Nat)) (.int (k:Nat)) x14 x15 x16 y17 y18 y19 y20 y21 y22) (hle:B.le B') (hQ:AScan B' n s t E hf xs' Q' enq' kf' ex g tm T cnt' v k R) (hR:∀j,j<i→∀(y:Nat) val,kvs[j]?=some ((y:Int),val)→R y) (hl:Q'.length+2*potS n enq'≤lim):
   AsJ prog w B net hfa ad cn dc qa ea xa n s t v k lim T x11 x14 x15 x16 E hf ex g tm kvs i B' front avs
theorem asScan_ok {A:Around} {cd:Value} {n s t cnt v k lim:Nat} {net hfa ad cn dc qa ea xa:Addr} {tail:List (Addr×OP)} {E:Nat→Nat→Option (Option Nat)} {hf:Nat→Nat} {xs:Array Value} {Q:List AE} {enq:EQ} {kf:Nat→Option AV} {ex:Nat→Option (Option Nat)} {g tm:Nat→Nat} {T:Nat} {x11 x14 x15 x16 x17 x18 x19 x20 x21 x22:AV}
  (Rm:Room A 10 100) (hn:n≤6) (hw5:∀x y c,E x y=some (some c)→c≤5) (hv:v<n) (C:AsC prog w K B hfa ad dc n E hf) (H:AScan B n s t E hf xs Q enq kf ex g tm T cnt v k (fun _=>False)) (hlim:Q.length+2*potS n enq≤lim) (hl2:lim<2000)
  (S:St B ((L,FrameO nmAs (avAs net hfa ad cn qa ea xa s t x11 (.int (v:Nat)) (.int (k:Nat)) x14 x15 x16 x17 x18 x19 x20 x21 x22))::(frAs prog w n cn dc qa ea xa cnt xs kf ex++tail)) h)
  (kP:∀h' B' cnt' xs' Q' enq' kf' y17 y18 y19 y20 y21 y22,B.le B'→
   St B' ((L,FrameO nmAs (avAs net hfa ad cn qa ea xa s t x11 (.int (v:Nat)) (.int (k:Nat)) x14 x15 x16 y17 y18 y19 y20 y21 y22))::(frAs prog w n cn dc qa ea xa cnt' xs' kf' ex++tail)) h'→
   AScan B' n s t E hf xs' Q' enq' kf' ex g tm T cnt' v k (fun _=>True)→Q'.length+2*potS n enq'≤lim→P .next h'):
  Tr prog w A (execs (asW.drop 4) (envAs L cd)) h P X:=by
 have O:EnvOk (envAs L cd) L nmAs:=okAs
 obtain⟨r,oT,hT,mT,hr⟩:=C.tab
 obtain⟨hrm,kvs,hrow⟩:=hr v hv
 obtain⟨⟨oR,hoR,hdR⟩,hsound,hfull⟩:=hrow
 refine Cd.for_ (L:=L) (nms:=nmAs) (tail:=tail) Rm.hh kvs.length (fun i v h=>∃T key k x,v = .ref T∧kvs[i]?=some (k,x)∧(intKind prog w).is k key=true∧h.IsTuple T #[key,x])
  (AsJ prog w B net hfa ad cn dc qa ea xa n s t v k lim T x11 x14 x15 x16 E hf ex g tm kvs) ?_ ?_ ?_
 ·refine .items (.subM (.name O S 6 rfl rfl) (.name O S 12 rfl rfl) (S.keep _ _ hT) mT (by rw [if_pos hv])) (S.keep _ _ hoR) hdR hrm ?_
  have S1:=S.pushX { cls:= .type "dict_items",data:= .fields #[.ref (r v)]}
  exact⟨B,_,_,S1,⟨cnt,xs,Q,enq,kf,x17,x18,x19,x20,x21,x22,fun _=>False,rfl,rfl,PM.le_refl _,H,fun j hj=>absurd hj (Nat.not_lt_zero _),hlim⟩,
   Turns.items hoR S1.keep ⟨_,Heap.get?_push_size _ rfl,rfl,rfl⟩ hdR S1.size2,fun i B' front' avs' hJ=>by cases hJ;assumption⟩
 ·rintro i v' I q PP B' front avs h1 hi ⟨TT,key,kk,x,rfl,hx,hkey,hTup⟩ ⟨cnt',xs',Q',enq',kf',y17,y18,y19,y20,y21,y22,R,rfl,rfl,hle,H',hR,hl⟩ S1
  obtain⟨x',hx',e1,oc,da,od,e2,e3,e4,e5,e6⟩:=hsound _ (List.mem_of_getElem? hx)
  dsimp only at e1 e3
  subst e1 e3
  obtain⟨tk,rfl⟩:=Value.isInt_shape hkey
  refine Tr.asg2 O Rm.hh S1 17 18 rfl rfl hTup (a1:= .int (x':Nat)) (a2:= .val (.ref da)) ⟨tk,rfl⟩ rfl fun h2 S2=>?_
  refine asF_ok (lim:=lim) Rm hn hw5 (C.le hle) H' hl hl2 hx' e2 (hle _ _ e4) e5 e6 S2 fun f h' B'' cnt'' xs'' Q'' enq'' kf'' z19 z20 z21 z22 hff hle' S'' H'' hl''=>?_
  have fin:ForP L nmAs ((I,q)::tail) (AsJ prog w B net hfa ad cn dc qa ea xa n s t v k lim T x11 x14 x15 x16 E hf ex g tm kvs (i+1)) h':=by
   refine⟨B'',_,_,S'',cnt'',xs'',Q'',enq'',kf'',_,_,z19,z20,z21,z22,_,rfl,rfl,PM.le_trans hle hle',H'',fun j hj y val e=>?_,hl''⟩
   rcases Nat.lt_or_ge j i with q' | q'
   ·exact .inl (hR j q' y val e)
   ·have:j=i:=nt130 hj q'
    subst this
    rw [hx] at e
    obtain e00:=Option.some.inj e;obtain⟨e0010,rfl⟩:=Prod.mk.inj e00;obtain rfl:=Int.ofNat.inj e0010
    exact .inr rfl
  rcases hff with rfl | rfl
  ·exact fin
  ·exact fin
 ·rintro B' front avs h1 ⟨cnt',xs',Q',enq',kf',y17,y18,y19,y20,y21,y22,R,rfl,rfl,hle,H',hR,hl⟩ S1
  refine Cd.nil (kP _ _ _ _ _ _ _ _ _ _ _ _ _ hle S1 ⟨H'.a.full (fun w' c hw'=>?_) v,H'.dv,H'.ev,H'.q,H'.r,H'.c⟩ hl)
  have hw'':E v w'=some (some c):=hw'
  obtain⟨p,hp,hpe⟩:=hfull w' (by rw [hw''];rfl)
  obtain⟨j,hj⟩:=List.mem_iff_getElem?.mp hp
  obtain⟨p1,p2⟩:=p
  dsimp only at hpe
  subst hpe
  exact hR j (List.getElem?_eq_some_iff.mp hj).1 w' p2 hj
end
end
section
set_option tactic.hygienic false
open PySem PySem.W PyProof.Rows
variable [GenI]
theorem Back.rem {W:WRel} {ex:Nat→Option (Option Nat)} {s x l d} (h:Back W ex s x l d):Rem ex (some x) l:=by
 induction h with
 | src e=>exact .cons e .nil
 | step e _ _ ih=>exact .cons e ih
theorem Back.way {W:WRel} {ex:Nat→Option (Option Nat)} {s x l d} (h:Back W ex s x l d):Way W s l.reverse x d:=by
 induction h with
 | src e=>exact .one
 | step _ w _ ih=>rw [List.reverse_cons];exact ih.snoc w
theorem AOk.goal {n s t:Nat} {W:WRel} {hf:Nat→Nat} {Q:List AE} {enq:EQ} {ex:Nat→Option (Option Nat)} {g tm:Nat→Nat} {T b v:Nat} {e:AE} (h:AOk n s t W hf (e::Q) enq ex g tm T b v (fun _=>True))
  (hl:∀q∈Q,e.f≤q.f) (het:e.v=t) (adm:∀x c,Walk W x t c→hf x≤c):∃r d,Rem ex e.p r∧r.length≤n∧Way W s (t::r).reverse t d∧∀δ,Walk W s t δ→d≤δ:=by
 have hlim:∀x,(ex x).isSome=true→x<n:=fun x hx=>by
  obtain⟨p,hp⟩:=Option.isSome_iff_exists.mp hx
  exact(h.exOk x p hp).1
 rcases(h.ent e (.head _)).2 with⟨h1,h2,h3,_,_⟩ | ⟨u,c,ce,h1,h2,h3,h4,_⟩
 ·rw [h3]
  refine⟨[],0,.nil,Nat.zero_le _,?_,fun _ _=>Nat.zero_le _⟩
  have:s=t:=h1.symm.trans het
  subst this
  exact .one
 ·obtain⟨l,d,hb,hd⟩:=h.backOf h2
  rw [h1]
  refine⟨l,d+c,hb.rem,hb.rem.lim hlim,?_,fun δ hw=>?_⟩
  ·rw [List.reverse_cons];exact hb.way.snoc (het▸h3)
  ·have:=h.best hl het adm hw;exact nt357 h4 ‹_› hd this
theorem optAv_ne {p:Option Nat}:optAv p≠ .any:=by cases p <;> nofun
noncomputable def asRet:List Stmt:=fnBody (asW.getD 1 (.Pass default))
inductive AsOut (B:PM) (W:WRel) (s t:Nat) (v:Value):Prop
 | mk (la oL ys p d) (f1:v = .ref la) (f2:B la=some oL) (f3:LiO ys oL) (f4:Ints ys p) (f5:Way W s p t d) (f6:(∀δ,Walk W s t δ→d≤δ)) (f7:p.length≤50):AsOut B W s t v
section
variable {prog:Program} {w:World} {A:Around} {env:Env} {h:Heap} {X:Value→Heap→Prop} {P:Flow→Heap→Prop} {B:PM} {ms:List (Addr×OP)} {L:Addr} {nms:List Str} {avs:List AV} {pos:Pos} {K:Frag} {rest:List Stmt}
theorem Cd.reverse {o:PySem.Expr} {ap:Pos} {a:Addr} {xs:List Value} {j:Nat} {p2:Pos} (S:St B ms h) (hj:ms[j]?=some (a,LiO xs)) (ho:Ev prog w A env h o (.val (.ref a))) (hz:xs.length≤100)
  (k:∀h',St B (ms.set j (a,LiO xs.reverse)) h'→Tr prog w A (execs rest env) h' P X)
  (hbase:attributeBase o "reverse" env (eval o env)=eval o env:=by rfl) (hline:(ap.endLine == p2.line)=true:=by rfl) (hn:StarE [] env:=by rfl) (hi:interactive env=false:=by rfl) (hs:swapsWith (.Call (.Attribute o "reverse" ap) [] [] p2) none pos.line env=pure false:=by rfl):
  Tr prog w A (execs (.Expr (.Call (.Attribute o "reverse" ap) [] [] p2) pos::rest) env) h P X:=by
 obtain⟨ob,hob,nn,rfl⟩:=S.mem hj
 refine Cd.expr (.callMeth ho (.builtin (T:= "list") (id:= "list.reverse") (fun g d tk os=>⟨_,hob,rfl⟩) PySem.F.plainAttrs_list PySem.F.slot_list_reverse PySem.F.type_list_reverse (fun a' e'=>by obtain rfl:=Value.ref.inj e';exact⟨_,hob,rfl⟩)) (.evNil ⟨.builtin,?_⟩) hbase rfl hline hn) hi hs
 intro g d tk os Q E hg hq hE
 refine call_meets PySem.F.slot_list_reverse ⟨_,hob,rfl⟩ PySem.F.entry_list_reverse (PySem.F.args_list_reverse_1 _) (AutoSeq1.list_reverse_list_0 a xs.toArray nn (by rw [sizeLine_eq];simp;exact nt80 hz)) ⟨hob,?_⟩
 refine hq _ _ _ _ hg (k _ (S.upd hj (Heap.SameBut.update ..) (Heap.get?_update_self _ hob (by rw [mapSeq_reverse];rfl)) ⟨nn,?_⟩))
 rw [mapSeq_reverse]
theorem asRet_ok {A:Around} {cd:Value} {n s t cnt k:Nat} {net hfa ad cn dc qa ea xa:Addr} {tail:List (Addr×OP)} {W:WRel} {xs:Array Value} {kf:Nat→Option AV} {ex:Nat→Option (Option Nat)} {par:Option Nat} {r:List Nat} {x11 x15 x16 x17 x18 x19 x20 x21 x22:AV}
  (hr:Rem ex par r) (hrl:r.length≤10) {d:Nat} (hway:Way W s (t::r).reverse t d) (hbest:∀δ,Walk W s t δ→d≤δ)
  (S:St B ((L,FrameO nmAs (avAs net hfa ad cn qa ea xa s t x11 (.int (t:Nat)) (.int (k:Nat)) (optAv par) x15 x16 x17 x18 x19 x20 x21 x22))::(frAs prog w n cn dc qa ea xa cnt xs kf ex++tail)) h)
  (kP:∀v B' h',B.le B'→St B' tail h'→AsOut B' W s t v→P (.ret v) h'):
  Tr prog w A (execs (asRet++asW.drop 2) (envAs L cd)) h P X:=by
 have O:EnvOk (envAs L cd) L nmAs:=okAs
 refine Cd.assign O 15 rfl (.listD (.evE (.name O S 12 rfl rfl) fun v1 hv1=>.evNil ⟨few (by exact Nat.le_of_ble_eq_true rfl),B,(h.objs.size,LiO [v1])::(frAs prog w n cn dc qa ea xa cnt xs kf ex++tail),_,.val (.ref h.objs.size),(S.pushM (P:=LiO [v1]) ⟨0,rfl⟩).perm (List.Perm.swap ..),rfl,fun h2 S2=>?_⟩))
 obtain⟨t1,rfl⟩:=hv1
 generalize h.objs.size=pa at S2
 have S2:St B ((L,FrameO nmAs (avAs net hfa ad cn qa ea xa s t x11 (.int (t:Nat)) (.int (k:Nat)) (optAv par) (.val (.ref pa)) x16 x17 x18 x19 x20 x21 x22))::(pa,LiO [Value.int (t:Nat) t1])::(frAs prog w n cn dc qa ea xa cnt xs kf ex++tail)) h2:=S2
 refine Cd.assignE O S2 16 rfl (av:=optAv par) (.name O S2 14 rfl rfl optAv_ne) fun h3 S3=>?_
 have S3:St B ((L,FrameO nmAs (avAs net hfa ad cn qa ea xa s t x11 (.int (t:Nat)) (.int (k:Nat)) (optAv par) (.val (.ref pa)) (optAv par) x17 x18 x19 x20 x21 x22))::(pa,LiO [Value.int (t:Nat) t1])::(frAs prog w n cn dc qa ea xa cnt xs kf ex++tail)) h3:=S3
 refine Tr.mono (P:=fun f h'=>∃v,f = .ret v∧P (.ret v) h') (X:=noX) ?_ (fun f h' ⟨v,e,p⟩=>by subst e;exact p) fun _ _ x=>x.elim
 refine Cd.while_ (n:=r.length) (PaI B L nmAs (fun c=>avAs net hfa ad cn qa ea xa s t x11 (.int (t:Nat)) (.int (k:Nat)) (optAv par) (.val (.ref pa)) (optAv c) x17 x18 x19 x20 x21 x22) pa (frAs prog w n cn dc qa ea xa cnt xs kf ex++tail) ex (t::r)) ⟨par,[t],r,_,S3,.cons ⟨t1,rfl⟩ .nil,rfl,hr,rfl⟩ ?_
 rintro m PP h4 ⟨cur,l,r',xs',S4,hI,hlr,hrem,rfl⟩
 cases hrem with
 | nil=>
  refine Et.tr (Et.eq (.cmp (.name O S4 16 rfl rfl) .cNone .isNotNone) rfl) ?_
  have hlp:l=t::r:=by rw [←hlr,List.append_nil]
  subst hlp
  show Tr prog w A (execs _ _) h4 _ noX
  refine Cd.reverse S4 (j:=1) rfl (.name O S4 15 rfl rfl) (by rw [hI.length,List.length_cons];exact nt77 hrl) fun h5 S5=>?_
  have S5:St B ((L,FrameO nmAs (avAs net hfa ad cn qa ea xa s t x11 (.int (t:Nat)) (.int (k:Nat)) (optAv par) (.val (.ref pa)) (optAv none) x17 x18 x19 x20 x21 x22))::(pa,LiO xs'.reverse)::(frAs prog w n cn dc qa ea xa cnt xs kf ex++tail)) h5:=S5
  refine Cd.retE (.name O S5 15 rfl rfl) fun v hv=>?_
  have hv:v = .ref pa:=hv
  subst hv
  have S6:=S5.perm (List.Perm.swap ..)
  obtain⟨oL,hoL,hLi⟩:=S6.mem (i:=0) rfl
  refine⟨_,rfl,kP _ _ _ (PM.le_put (S6.off _ (.head _))) ((S6.freeze0 hoL).dropTo tail (List.Sublist.cons _ (List.sublist_append_right _ _))) ⟨pa,oL,_,_,d,rfl,PM.put_self,hLi,hI.reverse,hway,hbest,by simp;exact nt78 hrl⟩⟩
 | @cons v nx r'' e hr'=>
  refine Et.tr (Et.eq (.cmp (.name O S4 16 rfl rfl) .cNone .isNotNone) rfl) ?_
  show Tr prog w A (execs _ _) h4 _ noX
  have hlen:l.length+(r''.length+1)=r.length+1:=by have:=congrArg List.length hlr;simpa using this
  refine Cd.append S4 (j:=1) rfl (.name O S4 15 rfl rfl) (.name O S4 16 rfl rfl) (by rw [hI.length];exact nt262 hrl hlen) fun vv h5 hvv S5=>?_
  obtain⟨tv,rfl⟩:=hvv
  have S5:St B ((L,FrameO nmAs (avAs net hfa ad cn qa ea xa s t x11 (.int (t:Nat)) (.int (k:Nat)) (optAv par) (.val (.ref pa)) (optAv (some v)) x17 x18 x19 x20 x21 x22))::(pa,LiO (xs'++[Value.int (v:Nat) tv]))::(frAs prog w n cn dc qa ea xa cnt xs kf ex++tail)) h5:=S5
  obtain⟨oP,hoP,mP⟩:=S5.mem (i:=5) rfl
  refine Cd.assignE O S5 16 rfl (.subM (.name O S5 10 rfl rfl) (.name O S5 16 rfl rfl) hoP mP (c:=optAv nx) (by unfold pAv;rw [e];rfl)) fun h6 S6=>?_
  exact Cd.nil ⟨r''.length,by simp,nx,l++[v],r'',_,S6,hI.append (.cons ⟨tv,rfl⟩ .nil),by rw [←hlr];simp,hr',rfl⟩
end
end
section
set_option tactic.hygienic false
open PySem PySem.W PyProof.Rows
variable [GenI]
structure ATurn (B:PM) (n s t:Nat) (E:Nat→Nat→Option (Option Nat)) (hf:Nat→Nat) (xs:Array Value) (Q:List AE) (enq:EQ) (kf:Nat→Option AV) (ex:Nat→Option (Option Nat)) (g tm:Nat→Nat) (T cnt v:Nat):Prop where
 a:AOk n s t (WE E) hf Q enq ex g tm T (bndE n enq) v (fun _=>True)
 q:QuB qAs B xs Q
 r:EnqR B enq kf
 c:∀e∈Q,e.c<cnt
section
variable {prog:Program} {w:World} {A:Around} {env:Env} {h:Heap} {X:Value→Heap→Prop} {P:Flow→Heap→Prop} {B:PM} {ms:List (Addr×OP)} {L:Addr} {nms:List Str} {avs:List AV} {pos:Pos} {K:Frag} {rest:List Stmt}
theorem asTurn_ok {A:Around} {cd:Value} {n s t cnt v:Nat} {net hfa ad cn dc qa ea xa:Addr} {tail:List (Addr×OP)} {E:Nat→Nat→Option (Option Nat)} {hf:Nat→Nat} {xs:Array Value} {Q:List AE} {enq:EQ} {kf:Nat→Option AV} {ex:Nat→Option (Option Nat)} {g tm:Nat→Nat} {T:Nat} {x11 x12 x13 x14 x15 x16 x17 x18 x19 x20 x21 x22:AV}
  (Rm:Room A 10 100) (hn:n≤6) (hw5:∀x y c,E x y=some (some c)→c≤5) (hirr:∀x c,E x x≠some (some c)) (adm:∀x c,Walk (WE E) x t c→hf x≤c) (C:AsC prog w K B hfa ad dc n E hf) (H:ATurn B n s t E hf xs Q enq kf ex g tm T cnt v) (hQ:Q≠[]) (hl2:Q.length+2*potS n enq<2000)
  (S:St B ((L,FrameO nmAs (avAs net hfa ad cn qa ea xa s t x11 x12 x13 x14 x15 x16 x17 x18 x19 x20 x21 x22))::(frAs prog w n cn dc qa ea xa cnt xs kf ex++tail)) h)
  (kRet:∀v B' h',B.le B'→St B' tail h'→AsOut B' (WE E) s t v→P (.ret v) h')
  (kNext:∀f h' B' cnt' xs' Q' enq' kf' ex' g' tm' T' v' y11 y12 y13 y14 y15 y16 y17 y18 y19 y20 y21 y22,(f = .next∨f = .cont)→B.le B'→
   St B' ((L,FrameO nmAs (avAs net hfa ad cn qa ea xa s t y11 y12 y13 y14 y15 y16 y17 y18 y19 y20 y21 y22))::(frAs prog w n cn dc qa ea xa cnt' xs' kf' ex'++tail)) h'→
   ATurn B' n s t E hf xs' Q' enq' kf' ex' g' tm' T' cnt' v'→Q'.length+2*potS n enq'<Q.length+2*potS n enq→P f h'):
  Tr prog w A (execs asW (envAs L cd)) h P X:=by
 have O:EnvOk (envAs L cd) L nmAs:=okAs
 refine Cd.asgCall O Rm.hh (by decide) (.callName (.g O S C.F.gPop) (.evE (.name O S 8 rfl rfl) fun v0 hv0=>.evNil ⟨.builtin,?_⟩))
 have hv0':v0 = .ref qa:=hv0
 subst hv0'
 refine Tr.heappop (q:=qAs) (Rm.le (by decide) (by decide)) S (j:=2) rfl H.q hQ (nt119 hl2) fun pv e ys Q' h1 he S1 q1 hp hleast=>?_
 obtain⟨kf0,c,x,d,par⟩:=e
 obtain⟨tu,o,tk,tc,r,rfl,hB,hT,tv,td,pv,hr,hpv⟩:=he
 subst hr
 have S1:St B ((L,FrameO nmAs (avAs net hfa ad cn qa ea xa s t x11 x12 x13 x14 x15 x16 x17 x18 x19 x20 x21 x22))::(frAs prog w n cn dc qa ea xa cnt ys kf ex++tail)) h1:=S1
 refine⟨_,_,_,tu,_,rfl,S1,isTuple_of (S1.keep _ _ hB) hT,[(11,"_",.int (kf0:Nat) tk,.any),(11,"_",.int (c:Nat) tc,.any),(12,"curnode",.int (x:Nat) tv,.int (x:Nat)),(13,"dist",.int (d:Nat) td,.int (d:Nat)),(14,"parent",pv,optAv par)],⟨[_,_,_,_,_],rfl,rfl⟩,rfl,fun p hp=>?_,fun h2 S2=>?_⟩
 ·rcases List.mem_cons.mp hp with rfl | hp
  ·exact⟨rfl,trivial⟩
  rcases List.mem_cons.mp hp with rfl | hp
  ·exact⟨rfl,trivial⟩
  rcases List.mem_cons.mp hp with rfl | hp
  ·exact⟨rfl,tv,rfl⟩
  rcases List.mem_cons.mp hp with rfl | hp
  ·exact⟨rfl,td,rfl⟩
  ·rw [List.mem_singleton.mp hp];exact⟨rfl,hpv⟩
 have S2:St B ((L,FrameO nmAs (avAs net hfa ad cn qa ea xa s t .any (.int (x:Nat)) (.int (d:Nat)) (optAv par) x15 x16 x17 x18 x19 x20 x21 x22))::(frAs prog w n cn dc qa ea xa cnt ys kf ex++tail)) h2:=S2
 have hlen:Q'.length+1=Q.length:=by have:=hp.length_eq;rw [List.length_cons] at this;exact nt155 this
 have a1:=H.a.perm hp.symm
 have c1:∀e∈Q',e.c<cnt:=fun e he=>H.c e (hp.mem_iff.mpr (.tail _ he))
 have hxn:x<n:=(a1.ent _ (.head _)).1
 by_cases hxt:x=t
 ·subst hxt
  refine Cd.ifT (Et.eq (.cmp (.name O S2 12 rfl rfl) (.name O S2 2 rfl rfl) .eq) (by simp)) ?_
  obtain⟨r,dd,g1,g2,g3,g4⟩:=a1.goal hleast rfl adm
  exact asRet_ok g1 (nt175 hn g2) g3 g4 S2 kRet
 refine Cd.ifF (Et.eq (.cmp (.name O S2 12 rfl rfl) (.name O S2 2 rfl rfl) .eq) (by simp;exact nt196 hxt)) ?_
 have go:∀{h5:Heap} {z21 z22:AV},St B ((L,FrameO nmAs (avAs net hfa ad cn qa ea xa s t .any (.int (x:Nat)) (.int (d:Nat)) (optAv par) x15 x16 x17 x18 x19 x20 z21 z22))::(frAs prog w n cn dc qa ea xa cnt ys kf ex++tail)) h5→
   (ex x=none∨(x≠s∧∃ce hh,enq x=some (ce,hh)∧¬ce<d))→Tr prog w A (execs (asW.drop 3) (envAs L cd)) h5 P X:=by
  intro h5 z21 z22 S5 hnew
  have a2:=a1.explore (fun x c=>hirr x c) hxt hnew
  refine Cd.storeM S5 (j:=4) rfl (av:=optAv par) (.name O S5 14 rfl rfl optAv_ne) (.name O S5 10 rfl rfl) (.name O S5 12 rfl rfl) hxn hn fun h6 S6=>?_
  rw [pAv_upd] at S6
  have S6:St B ((L,FrameO nmAs (avAs net hfa ad cn qa ea xa s t .any (.int (x:Nat)) (.int (d:Nat)) (optAv par) x15 x16 x17 x18 x19 x20 z21 z22))::(frAs prog w n cn dc qa ea xa cnt ys kf (upd ex x par)++tail)) h6:=S6
  refine asScan_ok (lim:=Q'.length+2*potS n enq) Rm hn hw5 hxn C ⟨a2,if_pos rfl,by show(upd ex x par x).isSome=true;rw [upd_self];rfl,q1,H.r,c1⟩ (Nat.le_refl _) (nt216 hl2 hlen) S6 fun h' B' cnt' xs' Q'' enq' kf' y17 y18 y19 y20 y21 y22 hle S' H' hl'=>?_
  exact kNext _ _ _ _ _ _ _ _ _ _ _ _ _ _ _ _ _ _ _ _ _ _ _ _ _ (.inl rfl) hle S' ⟨H'.a,H'.q,H'.r,H'.c⟩ (nt329 hlen hl')
 obtain⟨oX,hoX,mX⟩:=S2.mem (i:=4) rfl
 have meX:=notMods_of S2 (j:=4) rfl
 have pSome:(pAv ex x).isSome=(ex x).isSome:=by unfold pAv;simp
 cases hex:ex x with
 | none=>
  refine Cd.ifF (Et.eq (.cmp (.name O S2 12 rfl rfl) (.name O S2 10 rfl rfl) (.inM hoX mX meX)) (by rw [pSome,hex];rfl)) ?_
  exact go S2 (.inl hex)
 | some p=>
  refine Cd.ifT (Et.eq (.cmp (.name O S2 12 rfl rfl) (.name O S2 10 rfl rfl) (.inM hoX mX meX)) (by rw [pSome,hex];rfl)) ?_
  have skip:∀{h5:Heap} {z21 z22:AV},St B ((L,FrameO nmAs (avAs net hfa ad cn qa ea xa s t .any (.int (x:Nat)) (.int (d:Nat)) (optAv par) x15 x16 x17 x18 x19 x20 z21 z22))::(frAs prog w n cn dc qa ea xa cnt ys kf ex++tail)) h5→
    (x=s∨∃ce hh,enq x=some (ce,hh)∧ce<d)→P .cont h5:=fun S5 hs=>
   kNext _ _ _ _ _ _ _ _ _ _ _ _ _ _ _ _ _ _ _ _ _ _ _ _ _ (.inr rfl) (PM.le_refl _) S5 ⟨a1.skip (by rw [hex];rfl) hs,q1,H.r,c1⟩ (nt209 hlen)
  have hsrc:ex s=some none:=by
   rcases H.a.src with⟨_,_,h1⟩ | h1
   ·rw [h1] at hex;contradiction
   ·exact h1.1
  cases p with
  | none=>
   refine Cd.ifT (Et.eq (.cmp (.subM (.name O S2 10 rfl rfl) (.name O S2 12 rfl rfl) hoX mX (c:= .val .none) (by unfold pAv;rw [hex];rfl)) .cNone .isNone) rfl) ?_
   refine Cd.cont (skip S2 (.inl ?_))
   rcases(H.a.exOk x none hex).2 with h1 | ⟨u,c,e,h,h1,_⟩
   ·exact h1
   ·contradiction
  | some u=>
   refine Cd.ifF (Et.eq (.cmp (.subM (.name O S2 10 rfl rfl) (.name O S2 12 rfl rfl) hoX mX (c:= .int (u:Nat)) (by unfold pAv;rw [hex];rfl)) .cNone .isNone) rfl) ?_
   have hxs:x≠s:=fun e=>by rw [e,hsrc] at hex;exact absurd hex (by simp)
   obtain⟨ce,hh,hq⟩:∃ce hh,enq x=some (ce,hh):=by
    rcases(H.a.exOk x _ hex).2 with h1 | ⟨_,_,e,h,_,_,_,_,_,h2,_⟩
    ·exact absurd h1 hxs
    ·exact⟨e,h,h2⟩
   obtain⟨tu2,ou,te,th,hk1,hk2,hk3⟩:=(H.r x).2 ce hh hq
   obtain⟨oE,hoE,mE⟩:=S2.mem (i:=3) rfl
   refine Cd.asgCall O Rm.hh (by decide) (.ofEv (.subM (.name O S2 9 rfl rfl) (.name O S2 12 rfl rfl) hoE mE hk1) fun v' hv'=>⟨_,_,_,tu2,_,hv',S2,isTuple_of (S2.keep _ _ hk2) hk3,[(21,"qcost",.int (ce:Nat) te,.int (ce:Nat)),(22,"h",.int (hh:Nat) th,.int (hh:Nat))],⟨[_,_],rfl,rfl⟩,rfl,fun p hp=>?_,fun h5 S5=>?_⟩)
   ·rcases List.mem_cons.mp hp with rfl | hp
    ·exact⟨rfl,te,rfl⟩
    ·rw [List.mem_singleton.mp hp];exact⟨rfl,th,rfl⟩
   have S5:St B ((L,FrameO nmAs (avAs net hfa ad cn qa ea xa s t .any (.int (x:Nat)) (.int (d:Nat)) (optAv par) x15 x16 x17 x18 x19 x20 (.int (ce:Nat)) (.int (hh:Nat))))::(frAs prog w n cn dc qa ea xa cnt ys kf ex++tail)) h5:=S5
   refine Cd.ifB (b:=decide (ce<d)) (Et.eq (.cmp (.name O S5 21 rfl rfl) (.name O S5 13 rfl rfl) .lt) (by simp)) (fun hb=>?_) (fun hb=>?_)
   ·exact Cd.cont (skip S5 (.inr ⟨ce,hh,hq,of_decide_eq_true hb⟩))
   ·exact go S5 (.inr ⟨hxs,ce,hh,hq,of_decide_eq_false hb⟩)
end
end
section
set_option tactic.hygienic false
open PySem PySem.W PyProof.Rows
variable [GenI]
theorem QuB.isEmpty {α:Type} {q:QK α} {B:PM} {xs:Array Value} {F:List α} (h:QuB q B xs F):(!xs.isEmpty)=decide (F≠[]):=by
 have:=h.size
 rw [Array.isEmpty]
 cases F with
 | nil=>rw [this];rfl
 | cons e r=>rw [this];rfl
theorem QuB.one {α:Type} {q:QK α} {B:PM} {v:Value} {e:α} (h:EntB q B v e):QuB q B #[v] [e]:=
 ⟨.cons h .nil,fun i hi x y hx=>by have:=(Array.getElem?_eq_some_iff.mp hx).1;simp at this;exact(nt35 hi this).elim,by simp⟩
theorem potS_le {n:Nat} (hn:n≤6):potS n (fun _=>none)≤186:=(by decide:∀n<7,potS n (fun _=>none)≤186) n (Nat.lt_succ_of_le hn)
theorem AOk.init {n s t:Nat} {W:WRel} {hf:Nat→Nat} {c b:Nat} (hs:s<n):AOk n s t W hf [⟨0,c,s,0,none⟩] (fun _=>none) (fun _=>none) (fun _=>0) (fun _=>0) 1 b s (fun _=>True):=by
 refine⟨fun e he=>?_,fun x e h q=>(by contradiction),.inl ⟨rfl,⟨_,.head _,rfl,rfl⟩,fun _=>rfl⟩,fun x p q=>(by contradiction),fun x q=>(by contradiction),rfl,fun x=>Nat.zero_lt_one,(by simp),fun q hq hne=>?_,fun x e h q=>(by contradiction),fun e he=>?_,fun x q=>(by contradiction)⟩
 ·rw [List.mem_singleton.mp he];exact⟨hs,.a rfl rfl rfl rfl rfl⟩
 ·rw [List.mem_singleton.mp hq] at hne;exact absurd rfl hne
 ·rw [List.mem_singleton.mp he];exact Nat.zero_le _
section
variable {prog:Program} {w:World} {A:Around} {env:Env} {h:Heap} {X:Value→Heap→Prop} {P:Flow→Heap→Prop} {B:PM} {ms:List (Addr×OP)} {L:Addr} {nms:List Str} {avs:List AV} {pos:Pos} {K:Frag} {rest:List Stmt}
inductive AsI (prog:Program) (w:World) (B:PM) (L net hfa ad cn dc qa ea xa:Addr) (n s t:Nat) (E:Nat→Nat→Option (Option Nat)) (hf:Nat→Nat) (tail:List (Addr×OP)) (m:Nat) (h:Heap):Prop
 | mk (B':PM) (cnt:Nat) (xs:Array Value) (Q:List AE) (enq:EQ) (kf:Nat→Option AV) (ex:Nat→Option (Option Nat)) (g tm:Nat→Nat) (T v:Nat) (x11 x12 x13 x14 x15 x16 x17 x18 x19 x20 x21 x22:AV) (hle:B.le B')
   (S:St B' ((L,FrameO nmAs (avAs net hfa ad cn qa ea xa s t x11 x12 x13 x14 x15 x16 x17 x18 x19 x20 x21 x22))::(frAs prog w n cn dc qa ea xa cnt xs kf ex++tail)) h)
   (H:ATurn B' n s t E hf xs Q enq kf ex g tm T cnt v) (hm:m=Q.length+2*potS n enq) (hm2:m<2000):AsI prog w B L net hfa ad cn dc qa ea xa n s t E hf tail m h
theorem asLoop_ok {A:Around} {cd:Value} {n s t cnt v:Nat} {net hfa ad cn dc qa ea xa:Addr} {tail:List (Addr×OP)} {E:Nat→Nat→Option (Option Nat)} {hf:Nat→Nat} {xs:Array Value} {Q:List AE} {enq:EQ} {kf:Nat→Option AV} {ex:Nat→Option (Option Nat)} {g tm:Nat→Nat} {T:Nat} {x11 x12 x13 x14 x15 x16 x17 x18 x19 x20 x21 x22:AV}
  (Rm:Room A 10 100) (hn:n≤6) (hw5:∀x y c,E x y=some (some c)→c≤5) (hirr:∀x c,E x x≠some (some c)) (adm:∀x c,Walk (WE E) x t c→hf x≤c) (C:AsC prog w K B hfa ad dc n E hf) (H:ATurn B n s t E hf xs Q enq kf ex g tm T cnt v) (hl2:Q.length+2*potS n enq<2000)
  (S:St B ((L,FrameO nmAs (avAs net hfa ad cn qa ea xa s t x11 x12 x13 x14 x15 x16 x17 x18 x19 x20 x21 x22))::(frAs prog w n cn dc qa ea xa cnt xs kf ex++tail)) h)
  (kRet:∀v B' h',B.le B'→St B' tail h'→AsOut B' (WE E) s t v→P (.ret v) h')
  (kNo:∀h' B' avs ms',B.le B'→St B' ((L,FrameO nmAs avs)::(ms'++tail)) h'→avs[1]?=some (.int (s:Nat))→avs[2]?=some (.int (t:Nat))→(∀δ,¬Walk (WE E) s t δ)→Tr prog w A (execs ((fnBody sAs).drop 10) (envAs L cd)) h' P X):
  Tr prog w A (execs ((fnBody sAs).drop 9) (envAs L cd)) h P X:=by
 have O:EnvOk (envAs L cd) L nmAs:=okAs
 refine Cd.while_ (n:=Q.length+2*potS n enq)
  (AsI prog w B L net hfa ad cn dc qa ea xa n s t E hf tail)
  ⟨B,cnt,xs,Q,enq,kf,ex,g,tm,T,v,x11,x12,x13,x14,x15,x16,x17,x18,x19,x20,x21,x22,PM.le_refl _,S,H,rfl,hl2⟩ ?_
 rintro m PP h1 ⟨B',cnt,xs,Q,enq,kf,ex,g,tm,T,v,x11,x12,x13,x14,x15,x16,x17,x18,x19,x20,x21,x22,hle,S1,H1,hm,hm2⟩
 have hl:h1.IsList qa xs:=S1.mem (i:=2) rfl
 refine Et.tr (Et.list (.name O S1 8 rfl rfl) hl (by rw [H1.q.size];omega)) ?_
 rw [H1.q.isEmpty]
 by_cases hb:Q = []
 ·rw [decide_eq_false (by simpa using hb)]
  subst hb
  exact kNo h1 B' _ (frAs prog w n cn dc qa ea xa cnt xs kf ex) hle S1 rfl rfl H1.a.noWay
 ·rw [decide_eq_true hb]
  show Tr prog w A (execs asW (envAs L cd)) h1 _ noX
  refine asTurn_ok Rm hn hw5 hirr adm (C.le hle) H1 hb (nt241 hm hm2) S1 (fun v B'' h'' hle' S' o=>kRet v B'' h'' (PM.le_trans hle hle') S' o) ?_
  intro f h' B'' cnt' xs' Q' enq' kf' ex' g' tm' T' v' y11 y12 y13 y14 y15 y16 y17 y18 y19 y20 y21 y22 hff hle' S' H' hlt
  have fin:WhP (AsI prog w B L net hfa ad cn dc qa ea xa n s t E hf tail) m h':=
   ⟨_,by rw [hm];exact hlt,B'',cnt',xs',Q',enq',kf',ex',g',tm',T',v',y11,y12,y13,y14,y15,y16,y17,y18,y19,y20,y21,y22,PM.le_trans hle hle',S',H',rfl,by exact nt334 hm hm2 hlt⟩
  rcases hff with rfl | rfl
  ·exact fin
  ·exact fin
noncomputable def avAs0 (net hfa:Addr) (s t:Nat) (x6 x7 x8 x9 x10:AV):List AV:=
 [.val (.ref net),.int (s:Nat),.int (t:Nat),.val (.ref hfa),.val (.ref 966),.val .none,x6,x7,x8,x9,x10,.any,.any,.any,.any,.any,.any,.any,.any,.any,.any,.any,.any]
theorem asBody_ok {A:Around} {dir:Bool} {cd:Value} {n s t:Nat} {net hfa dn:Addr} {tail:List (Addr×OP)} {E:Nat→Nat→Option (Option Nat)} {hf:Nat→Nat} {l:List (Str×Value)} {jd:Nat}
  (Rm:Room A 15 150) (hn:n≤6) (hs:s<n) (ht:t<n) (hw5:∀x y c,E x y=some (some c)→c≤5) (hirr:∀x c,E x x≠some (some c)) (adm:∀x c,Walk (WE E) x t c→hf x≤c) (F:BdF prog w K B) (HB:HeurB prog w hfa n hf B) (G:GrB prog w B dir net dn n E l) (hjd:tail[jd]?=some (dn,InsD l))
  (S:St B ((L,FrameO nmAs (avAs0 net hfa s t .any .any .any .any .any))::tail) h)
  (kRet:∀v B' h',B.le B'→St B' tail h'→AsOut B' (WE E) s t v→P (.ret v) h')
  (kNo:∀h' B' avs ms',B.le B'→St B' ((L,FrameO nmAs avs)::(ms'++tail)) h'→avs[1]?=some (.int (s:Nat))→avs[2]?=some (.int (t:Nat))→(∀δ,¬Walk (WE E) s t δ)→Tr prog w A (execs ((fnBody sAs).drop 10) (envAs L cd)) h' P X):
  Tr prog w A (execs (fnBody sAs) (envAs L cd)) h P X:=by
 have O:EnvOk (envAs L cd) L nmAs:=okAs
 refine Cd.ifTr (b:=true) (.inNet (Rm.le (by decide) (by decide)) F.inK F.gF G S (j:=jd+1) (by rw [List.getElem?_cons_succ];exact hjd) (.name O S 1 rfl rfl) (.name O S 0 rfl rfl) fun h1 S1=>?_)
 rw [decide_eq_true hs]
 refine Cd.ifTr (b:=true) (.inNet (Rm.le (by decide) (by decide)) F.inK F.gF G S1 (j:=jd+1) (by rw [List.getElem?_cons_succ];exact hjd) (.name O S1 2 rfl rfl) (.name O S1 0 rfl rfl) fun h2 S2=>?_)
 rw [decide_eq_true ht]
 refine Cd.ifF (Et.eq (.cmp (.name O S2 3 rfl rfl) .cNone .isNone) rfl) ?_
 obtain⟨ow,how,hwc⟩:=F.lwF
 refine Cd.assign O 4 rfl (.callName (.g O S2 F.gWf) (.evE (.name O S2 0 rfl rfl) fun v1 hv1=>.evE (.name O S2 4 rfl rfl) fun v2 hv2=>.evNil ⟨Kp.ofFn S2 F.wf,?_⟩))
 have hv1':v1 = .ref net:=hv1
 have hv2':v2 = .ref 966:=hv2
 subst hv1' hv2'
 refine(wf_ok (Rm.le (by decide) (by decide)) F.wf F.lim F.gCallable S2 how hwc).post fun v h3 ⟨hv,S3⟩=>⟨_,_,_,.val (.ref 966),S3,hv,fun h4 S4=>?_⟩
 have S4:St B ((L,FrameO nmAs (avAs0 net hfa s t .any .any .any .any .any))::tail) h4:=S4
 obtain⟨ox,hox,c1,c2,c3,_⟩:=G.inst
 obtain⟨ad,b1,b2,b3⟩:=G.adj
 obtain⟨od,hod,hil⟩:=S4.mem (i:=jd+1) (by rw [List.getElem?_cons_succ];exact hjd)
 have I:=instAt (S4.keep _ _ hox) c1 c2 c3 hod
 refine Cd.assignE O S4 6 rfl (.attr (.name O S4 0 rfl rfl) (.own (F.inK.in S4) (F.gF.cls dir) (F.gF.own dir _ (by simp)) I hil b1 rfl)) fun h5 S5=>?_
 have S5:St B ((L,FrameO nmAs (avAs0 net hfa s t (.val (.ref ad)) .any .any .any .any))::tail) h5:=S5
 refine Cd.assign O 7 rfl (.callName (.g O S5 F.gCount) (.evNil ⟨Kp.inK (F.inK.in S5) F.cF.cls.keep,?_⟩))
 refine(count_ok (Rm.le (by decide) (by decide)) F.inK F.cF S5).post fun vcn h6 ⟨cn,dc,B1,odc,e1,hle1,hdc,S6⟩=>⟨B1,_,_,.val (.ref cn),S6.perm front1,e1,fun h7 S7=>?_⟩
 have S7:St B1 ((L,FrameO nmAs (avAs0 net hfa s t (.val (.ref ad)) (.val (.ref cn)) .any .any .any))::(cn,CountO dc ((0:Nat):Int))::tail) h7:=S7
 have F1:=F.le hle1
 refine Cd.assign O 8 rfl (.listD (.evCons (.tupleD (.evE .cInt fun v1 hv1=>.evCons (.callName (.g O S7 F1.gNext) (.evE (.name O S7 7 rfl rfl) fun v2 hv2=>.evNil ⟨.builtin,?_⟩))))))
 have hv2':v2 = .ref cn:=hv2
 subst hv2'
 refine(Tr.next (Rm.le (by decide) (by decide)) F1.inK F1.cF S7 (j:=1) rfl hdc).post fun vc h8 zq0=>?_
 obtain⟨⟨tc,hvc⟩,S8⟩:=zq0
 have ecast:((0:Nat):Int)+1=((1:Nat):Int):=rfl
 rw [ecast] at S8
 have S8:St B1 ((L,FrameO nmAs (avAs0 net hfa s t (.val (.ref ad)) (.val (.ref cn)) .any .any .any))::(cn,CountO dc ((1:Nat):Int))::tail) h8:=S8
 refine .evE (.name O S8 1 rfl rfl) fun v3 hv3=>.evE .cInt fun v4 hv4=>.evE .cNone fun v5 hv5=>.evNil ⟨few (by exact Nat.le_of_ble_eq_true rfl),.evNil ⟨few (by exact Nat.le_of_ble_eq_true rfl),?_⟩⟩
 obtain⟨t1,rfl⟩:=hv1
 obtain⟨t3,rfl⟩:=hv3
 obtain⟨t4,rfl⟩:=hv4
 have hv5':v5 = .none:=hv5
 subst hvc hv5'
 have hle2:=PM.le_put (o:={ cls:= .type "tuple",data:= .seq [Value.int 0 t1,.int ((0:Nat):Int) tc,.int (s:Nat) t3,.int 0 t4,.none].toArray}) (S8.notB_of_none (St.push_none h8))
 have S9:=S8.pushB (o:={ cls:= .type "tuple",data:= .seq [Value.int 0 t1,.int ((0:Nat):Int) tc,.int (s:Nat) t3,.int 0 t4,.none].toArray})
 have hput:(B1.put h8.objs.size { cls:= .type "tuple",data:= .seq [Value.int 0 t1,.int ((0:Nat):Int) tc,.int (s:Nat) t3,.int 0 t4,.none].toArray}) h8.objs.size=some { cls:= .type "tuple",data:= .seq [Value.int 0 t1,.int ((0:Nat):Int) tc,.int (s:Nat) t3,.int 0 t4,.none].toArray}:=PM.put_self
 generalize B1.put h8.objs.size { cls:= .type "tuple",data:= .seq [Value.int 0 t1,.int ((0:Nat):Int) tc,.int (s:Nat) t3,.int 0 t4,.none].toArray} =B2 at hle2 S9 hput
 generalize (h8.push { cls:= .type "tuple",data:= .seq [Value.int 0 t1,.int ((0:Nat):Int) tc,.int (s:Nat) t3,.int 0 t4,.none].toArray})=h9 at S9 ⊢
 have ent:EntB qAs B2 (.ref h8.objs.size) ⟨0,0,s,0,none⟩:=⟨_,_,t1,tc,_,rfl,hput,⟨rfl,_,rfl⟩,t3,t4,_,rfl,rfl⟩
 generalize h8.objs.size=qt at ent ⊢
 have S10:=S9.pushM (o:={ cls:= .type "list",data:= .seq [Value.ref qt].toArray}) (P:=ListO #[.ref qt]) ⟨rfl,_,rfl⟩
 refine⟨B2,_,_,.val (.ref h9.objs.size),S10.perm front1,rfl,fun h11 S11=>?_⟩
 generalize h9.objs.size=qa at S11
 have S11:St B2 ((L,FrameO nmAs (avAs0 net hfa s t (.val (.ref ad)) (.val (.ref cn)) (.val (.ref qa)) .any .any))::(qa,ListO #[.ref qt])::(cn,CountO dc ((1:Nat):Int))::tail) h11:=S11
 refine Cd.assign O 9 rfl (.dict0 ⟨B2,_,_,.val (.ref h11.objs.size),(S11.pushM (o:={ cls:= .type "dict",data:= .dict #[]}) (P:=MapO prog w n (fun _=>none)) MapO.nil).perm front1,rfl,fun h12 S12=>?_⟩)
 generalize h11.objs.size=ea at S12
 have S12:St B2 ((L,FrameO nmAs (avAs0 net hfa s t (.val (.ref ad)) (.val (.ref cn)) (.val (.ref qa)) (.val (.ref ea)) .any))::(ea,MapO prog w n (fun _=>none))::(qa,ListO #[.ref qt])::(cn,CountO dc ((1:Nat):Int))::tail) h12:=S12
 refine Cd.assign O 10 rfl (.dict0 ⟨B2,_,_,.val (.ref h12.objs.size),(S12.pushM (o:={ cls:= .type "dict",data:= .dict #[]}) (P:=MapO prog w n (pAv fun _=>none)) MapO.nil).perm front1,rfl,fun h13 S13=>?_⟩)
 generalize h12.objs.size=xa at S13
 have S13:St B2 ((L,FrameO nmAs (avAs net hfa ad cn qa ea xa s t .any .any .any .any .any .any .any .any .any .any .any .any))::(xa,MapO prog w n (pAv fun _=>none))::(ea,MapO prog w n (fun _=>none))::(qa,ListO #[.ref qt])::(cn,CountO dc ((1:Nat):Int))::tail) h13:=S13
 have S14:St B2 ((L,FrameO nmAs (avAs net hfa ad cn qa ea xa s t .any .any .any .any .any .any .any .any .any .any .any .any))::(frAs prog w n cn dc qa ea xa 1 #[.ref qt] (fun _=>none) (fun _=>none)++tail)) h13:=
  S13.perm (.cons _ (List.Perm.append_right tail (List.reverse_perm [(xa,MapO prog w n (pAv fun _=>none)),(ea,MapO prog w n (fun _=>none)),(qa,ListO #[.ref qt]),(cn,CountO dc ((1:Nat):Int))])))
 have hle:=PM.le_trans hle1 hle2
 have hpot:=potS_le hn
 refine asLoop_ok (v:=s) (Rm.le (by decide) (by decide)) hn hw5 hirr adm ⟨F.le hle,HB.le hle,⟨odc,hle2 _ _ hdc⟩,b2.le hle⟩ ⟨AOk.init hs,QuB.one ent,fun x=>⟨fun _=>rfl,fun e h q=>(by contradiction)⟩,fun e he=>(by rw [List.mem_singleton.mp he];exact Nat.zero_lt_one)⟩ (by simp;exact nt81 hpot) S14
  (fun v B' h' hle' S' o=>kRet v B' h' (PM.le_trans hle hle') S' o) (fun h' B' avs ms' hle' S' e1 e2 hno=>kNo h' B' avs ms' (PM.le_trans hle hle') S' e1 e2 hno)
end
end
section
set_option tactic.hygienic false
open PySem PySem.W PyProof.Rows
variable [GenI]
theorem nsGet_at {M:Model} {A:Around} {E:Value→Shared→Prop} {s:Shared} {a:Addr} {m:Str→Option Value} {name:Str} {v:Option Value} {Q:Option Value→Shared→Prop} (hn:s.heap.Ns a m) (hv:m name=v) (h:Q v s):wpAny M A (nsGet a name) Q E s:=
 wpAny_nsGet hn (by rw [hv];exact h)
theorem wpAny_eq {α:Type} {M:Model} {A:Around} {E:Value→Shared→Prop} {s:Shared} {Q:α→Shared→Prop} {t t':Sem α} (e:t=t') (h:wpAny M A t' Q E s):wpAny M A t Q E s:=e▸h
noncomputable abbrev asBinds (net hfa:Addr) (s t:Nat) (ts tt:Tok):List (Str×Value):=[("G",.ref net),("source",.int (s:Nat) ts),("target",.int (t:Nat) tt),("heuristic",.ref hfa),("weight",.ref 966),("cutoff",.none)]
theorem asBinds_ok {sh:Shared} {T D net hfa:Addr} {s t:Nat} {ts tt:Tok} {o:Obj} {v0 v1:Value} {n:Nat} {m:Str→Option Value} {x:FX} (ho:sh.heap.get? T=some o) (hs:o.data = .seq #[v0,v1] n) (hD:sh.heap.Ns D m) (hm:m "cutoff" =some .none):
  BindsTo sh (fdOf sAs "astar_path" (.ref T) (.ref D) x) ⟨[.ref net,.int (s:Nat) ts,.int (t:Nat) tt,.ref hfa,.ref 966],[]⟩ (asBinds net hfa s t ts tt):=by
 intro M A E Q hq
 have h1:∃k,bindArgs (fdOf sAs "astar_path" (.ref T) (.ref D) x) ⟨[.ref net,.int (s:Nat) ts,.int (t:Nat) tt,.ref hfa,.ref 966],[]⟩=seqItems? (.ref T) >>= k∧wpAny M A (k (some #[v0,v1])) Q E sh:=by
  refine⟨_,rfl,?_⟩
  refine wpAny_bind (wpAny_eq (t':=pure [("G",Value.ref net),("source",.int (s:Nat) ts),("target",.int (t:Nat) tt),("heuristic",.ref hfa),("weight",.ref 966)]) (by with_unfolding_all rfl) (wpAny_pure ?_))
  refine wpAny_bind (wpAny_bind (wpAny_bind (nsGet_at hD hm (wpAny_pure ?_))))
  refine wpAny_pure ?_
  exact wpAny_pure hq
 obtain⟨k,e,hk⟩:=h1
 rw [e]
 exact wpAny_bind (wpAny_seqItems ho hs hk)
theorem asBinds_kw {sh:Shared} {T D net hfa:Addr} {s t:Nat} {ts tt:Tok} {o:Obj} {v0 v1:Value} {n:Nat} {x:FX} (ho:sh.heap.get? T=some o) (hs:o.data = .seq #[v0,v1] n):
  BindsTo sh (fdOf sAs "astar_path" (.ref T) (.ref D) x) ⟨[.ref net,.int (s:Nat) ts,.int (t:Nat) tt,.ref hfa,.ref 966],[("cutoff",.none)]⟩ (asBinds net hfa s t ts tt):=
 PySem.BindsTo.of_defaults rfl ho hs rfl rfl
theorem envAs_eq {L:Addr} {cd:Value}:envC sAs "astar_path" L 206 cd=envAs L cd:=by
 have:cellsFrom (L+1) (fnScope sAs).names [] = []:=by with_unfolding_all rfl
 unfold envC envAs envF envOf
 rw [this]
inductive AsAt (B:PM):Prop
 | mk (T D oT v0 v1 nw m) (f1:FnAt B 206 sAs "astar_path" (.ref T) (.ref D)) (f2:B T=some oT) (f3:oT.data = .seq #[v0,v1] nw) (f4:Kept B (fun h=>h.Ns D m)) (f5:m "cutoff" =some .none):AsAt B
theorem AsAt.le {B B':PM} (F:AsAt B) (h:B.le B'):AsAt B':=by
 obtain⟨T,D,oT,v0,v1,nw,m,e1,e2,e3,e4,e5⟩:=F
 exact⟨T,D,oT,v0,v1,nw,m,e1.le h,h _ _ e2,e3,e4.le h,e5⟩
section
variable {prog:Program} {w:World} {A:Around} {env lenv:Env} {h:Heap} {X:Value→Heap→Prop} {B:PM} {ms msr:List (Addr×OP)} {L Lf:Addr} {nms nmsL:List Str} {avs avsL:List AV} {pos:Pos} {K:Frag}
inductive AsRaised (B:PM) (L:Addr) (ms:List (Addr×OP)) (N:Prop) (e:Value) (h2:Heap):Prop
 | mk (B' h1 ev v ms' avs) (f1:e = .ref ev) (f2:B.le B') (f3:St B' ((L,FrameO nmAs avs)::(ms'++ms)) h1) (f4:Heap.MadeExcOf h1 h2 ev (.ref 108) [v]) (f5:N):AsRaised B L ms N e h2
theorem as_core {dir:Bool} {n s t jd:Nat} {ts tt:Tok} {net hfa dn:Addr} {E:Nat→Nat→Option (Option Nat)} {hf:Nat→Nat} {l:List (Str×Value)} {kw:List (Str×Value)} (Rm:Room A 16 160)
  (hn:n≤6) (hs:s<n) (ht:t<n) (hw5:∀x y c,E x y=some (some c)→c≤5) (hirr:∀x c,E x x≠some (some c)) (adm:∀x c,Walk (WE E) x t c→hf x≤c) (F:BdF prog w K B) (HB:HeurB prog w hfa n hf B) (fAs:AsAt B) (hE:ExcB B "NetworkXNoPath" 108) (hkw:kw = []∨kw = [(("cutoff" :Str),Value.none)])
  (G:GrB prog w B dir net dn n E l) (hjd:ms[jd]?=some (dn,InsD l)) (S:St B ms h)
  (hX:∀L cd e h2,AsRaised B L ms (∀δ,¬Walk (WE E) s t δ) e h2→Tr prog w (A.deeper (envAs L cd)) (leaving (envAs L cd) e) h2 (fun _ h3=>X e h3) noX):
  Tc prog w A (.call (.ref 206) ⟨[.ref net,.int (s:Nat) ts,.int (t:Nat) tt,.ref hfa,.ref 966],kw⟩) h (fun v h'=>∃B',B.le B'∧St B' ms h'∧AsOut B' (WE E) s t v) X:=by
 obtain⟨T,D,oT,v0,v1,nw,m,fA,hT,hTd,hD,hm⟩:=fAs
 refine Tc.callFnCX (d:=15) (u:=157) (XB:=fun L cd e h2=>AsRaised B L ms (∀δ,¬Walk (WE E) s t δ) e h2)
  Rm fA F.lim S (binds:=asBinds net hfa s t ts tt) (fun x s' hs'=>?_)
  nmAs (avAs0 net hfa s t .any .any .any .any .any) [] (fun L x hx=>?_) ?_ (fun L c hc=>absurd hc List.not_mem_nil) (fun c hc=>absurd hc List.not_mem_nil) (by simp) ?_ ?_
 ·have e1:s'.heap.get? T=some oT:=by rw [hs'];exact S.keep _ _ hT
  have e2:s'.heap.Ns D m:=by rw [hs'];exact hD h S.keep
  rcases hkw with rfl | rfl
  ·exact asBinds_ok e1 hTd e2 hm
  ·exact asBinds_kw e1 hTd
 ·have:x.1∈(["G","source","target","heuristic","weight","cutoff"]:List Str):=by
   have:=List.mem_map_of_mem (f:=(·.1)) hx
   exact this
  exact .inl ((by decide +kernel:∀y∈(["G","source","target","heuristic","weight","cutoff"]:List Str),(fnScope sAs).names.lookup y=some .local) _ this)
 ·refine .cons rfl (.cons ⟨_,rfl⟩ (.cons ⟨_,rfl⟩ (.cons rfl (.cons rfl (.cons rfl ?_)))))
  iterate 17 refine .cons trivial ?_
  exact .nil
 ·intro L h1 cd hcd R' S1
  rw [envAs_eq] at R' ⊢
  have S1:St B ((L,FrameO nmAs (avAs0 net hfa s t .any .any .any .any .any))::ms) h1:=S1
  refine asBody_ok (jd:=jd) (R'.le (by decide) (by decide)) hn hs ht hw5 hirr adm F HB G hjd S1 ?_ ?_
  ·intro v B' h' hle S2 o
   exact⟨B',hle,S2,o⟩
  ·intro h' B' avs ms' hle S2 e1 e2 hno
   have O:EnvOk (envAs L cd) L nmAs:=okAs
   refine Cd.raise O R'.hh S2 (hE.le hle) (.fstr (fun e he=>?_) (by exact Nat.le_of_ble_eq_true rfl) fun y t=>⟨_,S2,fun h3 e hm=>⟨B',h',e,_,ms',avs,rfl,hle,S2,hm,hno⟩⟩)
   rcases List.mem_cons.mp he with rfl | he
   ·exact .const
   ·rcases List.mem_cons.mp he with rfl | he
    ·exact .int (.name O S2 2 rfl e2) (nt172 hn ht)
    ·rcases List.mem_cons.mp he with rfl | he
     ·exact .const
     ·rw [List.mem_singleton.mp he];exact .int (.name O S2 1 rfl e1) (nt172 hn hs)
 ·intro L cd e h2 hr
  rw [envAs_eq]
  exact hX L cd e h2 hr
theorem as_ok {dir:Bool} {n s t jd:Nat} {ts tt:Tok} {net hfa dn:Addr} {E:Nat→Nat→Option (Option Nat)} {hf:Nat→Nat} {l:List (Str×Value)} {kw:List (Str×Value)} (Rm:Room A 16 160) (hfr:A.frames=some [lenv]) (hlf:lenv.frame=some Lf) (hlk:lenv.scope.kind = .function)
  (hn:n≤6) (hs:s<n) (ht:t<n) (hw5:∀x y c,E x y=some (some c)→c≤5) (hirr:∀x c,E x x≠some (some c)) (adm:∀x c,Walk (WE E) x t c→hf x≤c) (F:BdF prog w K B) (HB:HeurB prog w hfa n hf B) (fAs:AsAt B) (hE:ExcB B "NetworkXNoPath" 108) (hkw:kw = []∨kw = [(("cutoff" :Str),Value.none)])
  (G:GrB prog w B dir net dn n E l) (hjd:msr[jd]?=some (dn,InsD l)) (S:St B ((Lf,FrameO nmsL avsL)::msr) h):
  Tc prog w A (.call (.ref 206) ⟨[.ref net,.int (s:Nat) ts,.int (t:Nat) tt,.ref hfa,.ref 966],kw⟩) h
   (fun v h'=>∃B',B.le B'∧St B' ((Lf,FrameO nmsL avsL)::msr) h'∧AsOut B' (WE E) s t v)
   (Refused B 108 lenv Lf nmsL avsL msr (∀δ,¬Walk (WE E) s t δ)):=by
 refine as_core (jd:=jd+1) Rm hn hs ht hw5 hirr adm F HB fAs hE hkw G (by rw [List.getElem?_cons_succ];exact hjd) S ?_
 rintro L cd e h2 ⟨B',h1,ev,v,ms',avs,rfl,hle,S2,hm,hno⟩
 refine(leaveRaise (lenv:=lenv) (by show A.frames.map _=_;rw [hfr];rfl) rfl rfl hlf hlk S2 hm).post fun _ h3 ⟨S3,hfl⟩=>⟨ev,B',rfl,hle,S3,hfl,hno⟩
theorem as_okW {dir:Bool} {n s t jd:Nat} {ts tt:Tok} {net hfa dn:Addr} {E:Nat→Nat→Option (Option Nat)} {hf:Nat→Nat} {l:List (Str×Value)} {kw:List (Str×Value)} (Rm:Room A 16 160)
  (hn:n≤6) (hs:s<n) (ht:t<n) (hw5:∀x y c,E x y=some (some c)→c≤5) (hirr:∀x c,E x x≠some (some c)) (adm:∀x c,Walk (WE E) x t c→hf x≤c) (F:BdF prog w K B) (HB:HeurB prog w hfa n hf B) (fAs:AsAt B) (hE:ExcB B "NetworkXNoPath" 108) (hkw:kw = []∨kw = [(("cutoff" :Str),Value.none)])
  (G:GrB prog w B dir net dn n E l) (hjd:ms[jd]?=some (dn,InsD l)) (S:St B ms h) (hw:∃δ,Walk (WE E) s t δ):
  Tc prog w A (.call (.ref 206) ⟨[.ref net,.int (s:Nat) ts,.int (t:Nat) tt,.ref hfa,.ref 966],kw⟩) h (fun v h'=>∃B',B.le B'∧St B' ms h'∧AsOut B' (WE E) s t v) X:=by
 obtain⟨δ,hw⟩:=hw
 refine as_core (jd:=jd) Rm hn hs ht hw5 hirr adm F HB fAs hE hkw G hjd S ?_
 rintro L cd e h2 ⟨B',h1,ev,v,ms',avs,_,_,_,_,hno⟩
 exact absurd hw (hno δ)
end
end
section
set_option tactic.hygienic false
open PySem PySem.W PyProof.Rows
variable [GenI]
section
variable {prog:Program} {w:World} {A:Around} {env:Env} {h:Heap} {X:Value→Heap→Prop} {B:PM} {ms:List (Addr×OP)} {L:Addr} {nms:List Str} {avs:List AV} {pos:Pos} {K:Frag}
theorem Tr.testOr2 {a b:PySem.Expr} {whole:Sem Value} {P:Bool→Heap→Prop} (h1:Tr prog w A (isTrue a env (eval a env)) h (fun x h1=>if x then P true h1 else Tr prog w A (isTrue b env (eval b env)) h1 P X) X):
  Tr prog w A (isTrue (.BoolOp .Or [a,b] pos) env whole) h P X:=
 fun g d tk os Q E hg hq he=>wpAny_isTrue_BoolOp (wpAny_allTrue_Or_cons (h1 g d tk os _ E hg (fun x h1 g1 tk1 hg1 k=>by
  cases x with
  | true=>exact hq _ _ _ _ hg1 k
  | false=>
   refine wpAny_allTrue_Or_cons ((show Tr prog w A (isTrue b env (eval b env)) h1 P X from k) g1 d tk1 os _ E hg1 (fun y h2 g2 tk2 hg2 p=>?_) he)
   cases y with
   | true=>exact hq _ _ _ _ hg2 p
   | false=>exact wpAny_allTrue_Or_nil (hq _ _ _ _ hg2 p)) he))
theorem Tr.callKw1 {x:Str} {np:Pos} {a:Addr} {e:PySem.Expr} {es:List PySem.Expr} {name:Str} {value:PySem.Expr} {kp:Pos} {o:Obj} {fd:FuncData} {P:Value→Heap→Prop} (hf:Ev prog w A env h (.Name x np) (.val (.ref a)))
  (h1:Tr prog w A (evL (e::es) env) h (fun vs h1=>Tr prog w A (eval value env) h1 (fun v h2=>h2.get? a=some o∧o.data = .func fd∧Tr prog w A (call (.ref a) vs [(name,v)]) h2 P X) X) X) (hn:StarE (e::es) env:=by rfl):
  Tr prog w A (eval (.Call (.Name x np) (e::es) [⟨some name,value,kp⟩] pos) env) h P X:=by
 intro g d tk os Q E hg hq he
 show wpAny _ A (do PySem.callWith pos (←eval (.Name x np) env) [] (backTo pos (starEach (e::es) env)) (backToKw pos (keywordEach [⟨some name,value,kp⟩] env))) Q E _
 refine wpAny_bind (hf g d tk os _ E fun v tk' hv=>?_)
 have hv':v = .ref a:=hv
 subst hv'
 refine callWith_function_kw (o:=o) (fd:=fd) ?_
 rw [backTo_of hn]
 refine evalArgs_kw (by rfl) (h1 g d tk' os _ E hg (fun vs h1 g1 tk1 hg1 k=>?_) he)
 refine kwAll_cons (k g1 d tk1 os _ E hg1 (fun v h2 g2 tk2 hg2 ⟨e1,e2,k2⟩=>kwAll_nil ⟨⟨e1,e2⟩,?_⟩) he)
 exact k2 g2 d tk2 os Q E hg2 hq he
end
end
section
set_option tactic.hygienic false
open PySem PySem.W PyProof.Rows
variable [GenI]
noncomputable def sAInit:Stmt:=clsSt 22 1
theorem okAInit {L a:Addr} {cd:Value}:EnvOk (envF sAInit "AtlasView.__init__" L a cd) L ["self","d"]:= .of (by decide +kernel)
noncomputable def viewC (b:Bool):Addr:=if b then 291 else 269
inductive ViewB (B:PM) (x C d:Addr):Prop
 | mk (ox dx od) (f1:B x=some ox) (f2:PlainO C dx (fun s=>s = #[some (.ref d)]) ox) (f3:B dx=some od):ViewB B x C d
theorem ViewB.le {B B':PM} {x C d} (v:ViewB B x C d) (h:B.le B'):ViewB B' x C d:=by
 obtain⟨ox,dx,od,e1,e2,e3⟩:=v
 exact⟨ox,dx,od,h _ _ e1,e2,h _ _ e3⟩
structure ViewF (K:Frag) (B:PM):Prop where
 cls:∀b,Cls K (viewC b)
 init:∀b,MethF K (viewC b) "__init__" 230
 slot:∀b,SlotF K (viewC b) "_atlas" 270 0
 fInit:FnAt B 230 sAInit "AtlasView.__init__" .none .none
 lim:NoLim B
inductive ViewP (B:PM) (C d:Addr) (ms:List (Addr×OP)) (v:Value) (h2:Heap):Prop
 | mk (x:Addr) (B':PM) (e:v = .ref x) (hle:B.le B') (vb:ViewB B' x C d) (S:St B' ms h2)
theorem ViewF.le {K:Frag} {B B':PM} (F:ViewF K B) (h:B.le B'):ViewF K B':=⟨F.cls,F.init,F.slot,F.fInit.le h,F.lim.le h⟩
section
variable {prog:Program} {w:World} {A:Around} {env:Env} {h:Heap} {X:Value→Heap→Prop} {B:PM} {ms:List (Addr×OP)} {L:Addr} {nms:List Str} {avs:List AV} {pos:Pos} {K:Frag}
theorem view_ok {b:Bool} {d:Addr} (R:Room A 6 30) (hK:InK K B) (F:ViewF K B) (S:St B ms h):
  Tr prog w A (call (.ref (viewC b)) [.ref d]) h (ViewP B (viewC b) d ms) X:=
 Tc.tr (Tc.make (d:=5) (u:=26) R hK (F.cls b) (F.init b) S fun x dx h1 A' R' S1=>by
  refine Tc.callFn (d:=4) (u:=20) (R'.le (by decide) (by decide)) F.fInit F.lim S1 (binds:=[("self",.ref x),("d",.ref d)]) (fun x' s' hs'=>.of_eq rfl) ["self","d"] [.val (.ref x),.val (.ref d)] (.cons rfl (.cons rfl .nil)) (fun x hx=>?_) fun L h2 cd A2 R2 S2=>?_
  ·rcases List.mem_cons.mp hx with rfl | hx
   ·rfl
   ·rw [List.mem_singleton.mp hx];rfl
  obtain⟨od,hod,_⟩:=S2.mem (i:=2) rfl
  refine Cd.attrS (.ofEv (.name okAInit S2 1 rfl rfl) fun v hv=>⟨_,_,_,0,od,S2,rfl,hod,hK,F.cls b,F.slot b,by decide,.name okAInit S2 0 rfl rfl,fun h3 S3=>?_⟩)
  have hv':v = .ref d:=hv
  subst hv'
  have S4:St B ((x,PlainO (viewC b) dx fun s=>s = #[some (.ref d)])::(dx,InsD [])::ms) h3:=St.weak0 S3.drop0 (by
   rintro o ⟨c1,c2,c3,s,rfl,e⟩
   exact⟨c1,c2,c3,e.trans rfl⟩)
  obtain⟨ox,hox,hpl⟩:=S4.mem (i:=0) rfl
  have S5:=S4.freeze0 hox
  have hle1:=PM.le_put (o:=ox) (S4.off _ (.head _))
  obtain⟨od,hod,_⟩:=S5.mem (i:=0) rfl
  have S6:=S5.freeze0 hod
  have hle2:=PM.le_put (o:=od) (S5.off _ (.head _))
  exact Cd.nil ⟨rfl,x,_,rfl,PM.le_trans hle1 hle2,⟨ox,dx,od,hle2 _ _ PM.put_self,hpl,PM.put_self⟩,S6⟩)
end
end
section
set_option tactic.hygienic false
open PySem PySem.W PyProof.Rows
theorem fn_of {K:Frag} {f:Addr} (h:fnIn K f=true):∃oc od fd sl,K.lookup f=some ⟨oc,od,.func fd,sl⟩:=by
 unfold fnIn at h
 generalize K.lookup f=x at h ⊢
 cases x with
 | none=>exact(Bool.false_ne_true h).elim
 | some o=>
  obtain⟨oc,od,dt,sl⟩:=o
  cases dt <;> first | exact⟨_,_,_,_,rfl⟩ | exact(Bool.false_ne_true h).elim
variable [GenI]
section
variable {prog:Program} {w:World} {A:Around} {env:Env} {h:Heap} {X:Value→Heap→Prop} {B:PM} {ms:List (Addr×OP)} {L:Addr} {nms:List Str} {avs:List AV} {pos:Pos} {K:Frag}
theorem Room.in1 {d u:Nat} (R:Room A d (u+1)):Room A.in1 d u:=⟨R.hh,R.dp,by have:=R.un;show A.units+1+u<_;exact nt203 this⟩
inductive SubP (prog:Program) (w:World) (A:Around) (env:Env) (X P:Value→Heap→Prop) (K:Frag) (i:PySem.Expr) (k:AV) (v:Value) (h1:Heap):Prop
 | mk (x C f:Addr) (ox:Obj) (od:Option Obj) (e:v = .ref x) (hK:K.In h1) (I:InstAt h1 x ox C od) (M:MethF K C "__getitem__" f) (hf:fnIn K f=true) (hi:Ev prog w A env h1 i k) (k1:∀vi,k.ok vi→Tr prog w A.in1 (call (.ref f) [.ref x,vi]) h1 P X)
theorem Tr.subOwn {e i:PySem.Expr} {P:Value→Heap→Prop} {k:AV}
  (he:Tr prog w A (eval e env) h (SubP prog w A env X P K i k) X)
  (hsl:∀o vi,subscripted i true o vi=runValue (.builtin "lifetime.subscript" ⟨[o,vi],[]⟩):=by intro _ _;with_unfolding_all rfl):Tr prog w A (eval (.Subscript e i pos) env) h P X:=by
 intro g d tk os Q E hg hq hE
 rw [eval_Subscript]
 refine wpAny_bind (he g d tk os _ E hg (fun v h1 g1 tk1 hg1 z=>?_) hE)
 obtain⟨x,C,f,ox,od,e1,X1,I,M,hf,hi,k1⟩:=z
 subst e1
 refine wpAny_bind (wpAny_holding (hi g1 d tk1 os _ E fun vi tk2 hvi=>wpAny_bind (wpAny_standAt ?_)))
 obtain⟨_,_,_,_,ef⟩:=fn_of hf
 unfold getitemInPython
 refine wpAny_bind (wpAny_bind (wpAny_bind (I.type.at ((looks_findIn X1 M.find).at ?_))))
 dsimp only
 refine wpAny_bind (wpAny_load (X1 _ _ ef) (wpAny_pure ?_))
 dsimp only
 rw [hsl]
 refine wpAny_bind (wpAny_runValue (codeAny_builtin entry_sub ?_))
 unfold Builtin.«lifetime.subscript»
 refine wpAny_bind (special_fn (s:=⟨h1,g1,d,tk2,os⟩) X1 I M.find M.fn (k1 vi hvi g1 d tk2 os _ _ hg1 (fun v h2 g2 tk3 hg2 p=>?_) (fun e h2 g2 tk3 hg2 p=>hE _ _ _ _ hg2 p)))
 refine wpAny_pure ?_
 exact wpAny_bind (wpAny_letTemporaryGo (wpAny_pure (hq _ _ _ _ hg2 p)))
end
end
section
set_option tactic.hygienic false
open PySem PySem.W PyProof.Rows
variable [GenI]
section
variable {prog:Program} {w:World} {A:Around} {env:Env} {h:Heap} {X:Value→Heap→Prop} {B:PM} {ms:List (Addr×OP)} {L:Addr} {nms:List Str} {avs:List AV} {pos:Pos} {K:Frag}
theorem Tr.attrBind {o:PySem.Expr} {name:Str} {x C:Addr} {ox:Obj} {od:Option Obj} {gv a:Value} {P:Value→Heap→Prop} (ho:Ev prog w A env h o (.val (.ref x))) (hX:K.In h) (hC:Cls K C) (I:InstAt h x ox C od) (hf:findObj K C od name=some (.bind gv a))
  (h1:Tr prog w A.in1 (call gv [a,.ref x,.ref C]) h (fun v h'=>handedIn v=true∧P v h') noX)
  (he:eval (.Attribute o name pos) env=(do
   let o' ←eval o env
   standAt pos.atName
   let r ←holding [o'] (getAttr o' name true)
   letTemporaryGo o o' r
   Pure.pure r):=by with_unfolding_all rfl):Tr prog w A (eval (.Attribute o name pos) env) h P X:=by
 intro g d tk os Q E hg hq hE
 rw [he]
 refine wpAny_bind (ho g d tk os _ E fun v tk1 hv=>?_)
 have hv':v = .ref x:=hv
 subst hv'
 refine wpAny_bind (wpAny_standAt (wpAny_bind (wpAny_holding ?_)))
 refine get_bind (s:=⟨h,g,d,tk1,os⟩) hX I hC.get hf hC.hook (h1 g d (tk1+1) os _ _ hg (fun v h2 g2 tk2 hg2 p=>?_) (fun _ _ _ _ _ z=>z.elim))
 exact handed_on p.1 (wpAny_bind (wpAny_letTemporaryGo (wpAny_pure (hq _ _ _ _ hg2 p.2))))
end
end
section
set_option tactic.hygienic false
open PySem PySem.W PyProof.Rows
variable [GenI]
noncomputable def InsW (l:List (Str×Value)):OP:=fun o=>∃es n sl,o = { dictOf es n with slots:=sl}∧Ents es l
theorem InsW.of {l:List (Str×Value)} {o:Obj} (h:InsD l o):InsW l o:=by
 obtain⟨es,n,rfl,h⟩:=h
 exact⟨es,n,#[],rfl,h⟩
theorem InsW.look {l:List (Str×Value)} {o:Obj} {name:Str} (h:InsW l o):lookIn name o=some (l.lookup name):=by
 obtain⟨es,n,sl,rfl,he⟩:=h
 show lookIn name (dictOf es n)=_
 rw [lookIn_dict,he.getL]
section
variable {prog:Program} {w:World} {A:Around} {env:Env} {h:Heap} {X:Value→Heap→Prop} {B:PM} {ms:List (Addr×OP)} {L:Addr} {nms:List Str} {avs:List AV} {pos:Pos} {K:Frag}
theorem Ga.ownW {x C:Addr} {ox od:Obj} {name:Str} {l:List (Str×Value)} {v:Value} (hX:K.In h) (hC:Cls K C) (hO:OwnF K C name) (I:InstAt h x ox C (some od)) (hl:InsW l od) (hv:l.lookup name=some v) (hh:handedIn v=true):Ga prog w h (.ref x) name v:=by
 intro A g d tk os Q E b hq
 obtain⟨attr,h1,h2⟩:=hO.find
 exact get_value (s:=⟨h,g,d,tk,os⟩) hX I hC.get (findObj_own hO.has h1 h2 (by rw [hl.look,hv])) hh (hq _)
end
end
section
set_option tactic.hygienic false
open PySem PySem.W PyProof.Rows
noncomputable def calmC:Code→Bool
 | .builtin id _=>id != "lifetime.gc.finalise"
 | _=>true
noncomputable def Clean (Γ:Ctx):Prop:=calmC Γ.code=true∧∀x∈Γ.below,calmC x.1=true
theorem Clean.deep {Γ:Ctx} {p:Pos} (h:Clean Γ):∀x∈(Γ.code,p)::Γ.below,calmC x.1=true:=fun x hx=>by
 rcases List.mem_cons.mp hx with rfl | hx
 ·exact h.1
 ·exact h.2 x hx
theorem Clean.enter {Γ:Ctx} {c:Code} {hd:Option Value} {p:Pos} (h:Clean Γ) (hc:calmC c=true):Clean (Γ.enter c hd p):=⟨hc,h.deep⟩
theorem Clean.wake {Γ:Ctx} {c:Code} {p:Pos} (h:Clean Γ) (hc:calmC c=true):Clean (Γ.wake c p):=⟨hc,h.deep⟩
theorem Clean.goto {Γ:Ctx} {c:Code} (h:Clean Γ) (hc:calmC c=true):Clean (Γ.goto c):=⟨hc,h.2⟩
section
variable {M:Model} {A:Around} {α β:Type} {Q Q':α→Shared→Prop} {E E':Value→Shared→Prop} {s:Shared}
noncomputable def wpS (M:Model) (A:Around) {α:Type} (t:Sem α) (Q:α→Shared→Prop) (E:Value→Shared→Prop) (s:Shared):Prop:=
 ∀Γ p,Γ.In A→Clean Γ→Sem.wp M Γ t (fun a _ s'=>Q a s') (fun e _ s'=>E e s') p s
noncomputable def codeS (M:Model) (A:Around) (c:Code) (R:Result→Shared→Prop) (s:Shared):Prop:=
 ∀Γ p,Γ.code=c→Γ.Below A→Clean Γ→wpCode M Γ R p s
theorem wpS.of {t:Sem α} (h:wpAny M A t Q E s):wpS M A t Q E s:=fun Γ p hi _=>h Γ p hi
theorem codeS.of {c:Code} {R:Result→Shared→Prop} (h:codeAny M A c R s):codeS M A c R s:=fun Γ p hc hi _=>h Γ p hc hi
theorem wpS.mono {t:Sem α} (h:wpS M A t Q E s) (hQ:∀a s,Q a s→Q' a s) (hE:∀e s,E e s→E' e s):wpS M A t Q' E' s:=
 fun Γ p hi hc=>Sem.wp_mono M Γ t (fun a _ s=>hQ a s) (fun e _ s=>hE e s) p s (h Γ p hi hc)
theorem wpS.bind {m:Sem α} {f:α→Sem β} {Q:β→Shared→Prop} (h:wpS M A m (fun a s'=>wpS M A (f a) Q E s') E s):wpS M A (m >>= f) Q E s:=fun Γ p hi hc=>by
 rw [Sem.wp_bind']
 exact Sem.wp_mono M Γ m (fun a p' s' k=>k Γ p' hi hc) (fun _ _ _ k=>k) p s (h Γ p hi hc)
theorem wpS.bindA {m:Sem α} {f:α→Sem β} {Q:β→Shared→Prop} (h:wpAny M A m (fun a s'=>wpS M A (f a) Q E s') E s):wpS M A (m >>= f) Q E s:= .bind (.of h)
theorem wpS.bindS {m:Sem α} {f:α→Sem β} {Q:β→Shared→Prop} (h:wpS M A m (fun a s'=>wpAny M A (f a) Q E s') E s):wpS M A (m >>= f) Q E s:= .bind (h.mono (fun _ _ k=>.of k) fun _ _ k=>k)
theorem wpS.holding {vs:List Value} {m:Sem α} (h:wpS M A m Q E s):wpS M A (PySem.holding vs m) Q E s:=fun Γ p hi hc=>by
 rw [Sem.wp_holding];exact h Γ p hi hc
theorem wpS.onRaise {m:Sem α} {k:Value→Sem Unit} (h:wpS M A m Q (fun e s'=>wpAny M A (k e) (fun _ s''=>E e s'') E s') s):wpS M A (m.onRaise k) Q E s:=fun Γ p hi hc=>by
 rw [Sem.wp_onRaise]
 exact Sem.wp_mono M Γ m (fun _ _ _ h'=>h') (fun e p' s' h'=>h' Γ p' hi) p s (h Γ p hi hc)
theorem wpS.attempt {m:Sem α} {Q:Except Value α→Shared→Prop} (h:wpS M A m (fun a=>Q (.ok a)) (fun e=>Q (.error e)) s):wpS M A m.attempt Q E s:=fun Γ p hi hc=>by
 rw [Sem.wp_attempt];exact h Γ p hi hc
theorem wpS.runValue {c:Code} {Q:Value→Shared→Prop} (hc:calmC c=true) (h:codeS M A c (fun r s'=>match r with | .ok (.ret v)=>Q v s' | .ok _=>False | .error e=>E e s') s):
  wpS M A (PySem.runValue c) Q E s:=fun Γ p hi hcl=>by
 rw [Sem.wp_runValue]
 exact h _ p rfl (hi.enter c none p (by intro x;contradiction)) (hcl.enter hc)
theorem wpS.call {f:Value} {pos:List Value} {kw:List (Str×Value)} {Q:Value→Shared→Prop} (h:codeS M A (.call f ⟨pos,kw⟩) (fun r s'=>match r with | .ok (.ret v)=>Q v s' | .ok _=>False | .error e=>E e s') s):
  wpS M A (PySem.call f pos kw) Q E s:= .runValue rfl h
theorem wpS.stack {Q:List (Code×Pos)→Shared→Prop} (h:∀st:List (Code×Pos),(∀x∈st,calmC x.1=true)→Q st s):wpS M A PySem.stack Q E s:=fun Γ p _ hc=>h _ hc.deep
theorem codeS.mono {c:Code} {R R':Result→Shared→Prop} (h:codeS M A c R s) (hR:∀r s,R r s→R' r s):codeS M A c R' s:=fun Γ p hc hi hcl=>wpCode_mono hR (h Γ p hc hi hcl)
theorem codeS.tree {c:Code} {R:Result→Shared→Prop}
  (h:wpS M (A.under c) (M.den c) (fun fin s'=>match fin with | .done f=>R (.ok f) s' | .again c'=>c'.quiet=true∧calmC c'=true∧codeS M A c' R s') (fun e s'=>R (.error e) s') s):codeS M A c R s:=fun Γ p hc hi hcl=>by
 rw [wpCode_iff_wp,hc]
 refine Sem.wp_mono M Γ _ (fun fin p' s' k=>?_) (fun _ _ _ k=>k) p s (h Γ p (hc▸hi.in) hcl)
 cases fin with
 | done f=>exact k
 | again c'=>exact⟨k.1,k.2.2 (Γ.goto c') p' rfl (hi.goto c') (hcl.goto k.2.1)⟩
end
section
variable {prog:Program} {w:World} {A:Around} {E:Value→Shared→Prop} {s:Shared} {R:Result→Shared→Prop}
noncomputable abbrev finS (prog:Program) (w:World) (A:Around) (R:Result→Shared→Prop):Fin→Shared→Prop:=fun fin s'=>match fin with | .done f=>R (.ok f) s' | .again c'=>c'.quiet=true∧calmC c'=true∧codeS (model prog w) A c' R s'
theorem codeS.builtin {id:String} {args:Args} {b:Builtin} (hb:entryFor table id=some b) (h:wpS (model prog w) (A.under (.builtin id args)) (b args) (finS prog w A R) (fun e s'=>R (.error e) s') s):
  codeS (model prog w) A (.builtin id args) R s:=by
 refine .tree ?_
 show wpS _ _ (match entryFor table id with | some b=>b args | none=>unsupported ((withoutEnding? id "#data").getD id)) _ _ s
 rw [hb];exact h
theorem codeS.func {body env} (h:wpS (model prog w) (A.deeper env) (execs body env) (fun f s'=>R (.ok (.ret (match f with | .ret v=>v | _=>.none))) s')
   (fun e s'=>wpAny (model prog w) (A.deeper env) (leaving env e) (fun _ s''=>R (.error e) s'') (fun e' s''=>R (.error e') s'') s') s):codeS (model prog w) A (.func body env) R s:=by
 refine .tree ?_
 show wpS _ (A.deeper env) (do point;match ←(execs body env).onRaise (leaving env)with | .ret v=>ret v | _=>ret .none) _ _ s
 refine .bindA (wpAny_point (.bind (.onRaise (h.mono (fun f s' k=>?_) fun _ _ k=>k))))
 cases f <;> exact .of (wpAny_pure k)
theorem codeS.defCall {a:Addr} {args:Args} {o:Obj} {fd:FuncData} {body:List Stmt} (hroom:A.depth<recursionLimit) (ho:s.heap.get? a=some o)
  (hd':o.data = .func fd) (hco:fd.scope.isCoroutine=false) (hgen:fd.scope.isGenerator=false) (hbody:fd.body = .stmts body) (hcd:s.heap.CodeRec fd.code fd.qualname)
  (h:wpAny (model prog w) A.in1 (bindArgs fd args) (fun binds s₁=>wpAny (model prog w) A.in1 (newFunctionEnv fd.scope fd.globals fd.closure binds (fd.qualname++ ".<locals>.") (some a) fd.code none fd.builtins)
    (fun env s₂=>s₂.heap.NoLimit∧codeS (model prog w) A (.func body env) R s₂) (fun e s'=>R (.error e) s') s₁) (fun e s'=>R (.error e) s') s):codeS (model prog w) A (.call (.ref a) args) R s:=by
 refine .tree (.of ?_)
 show wpAny _ A.in1 (callAny (.ref a) args) _ _ s
 refine wpAny_bind (m:=load a) (wpAny_load ho ?_)
 obtain⟨c,oc,vs,tq,hc,hoc,hdc,hq⟩:=hcd
 rw [hd']
 show wpAny _ _ (callFunction a fd args) _ _ _
 rw [callFunction,hco,hgen,hbody,hc]
 rw [hc] at h
 refine wpAny_bind (m:=field (.ref c) 1) (wpAny_field hoc hdc hq (wpAny_bind (wpAny_pure ?_)))
 refine wpAny_bind (wpAny_mono h (fun binds s₁ h₁=>wpAny_bind (wpAny_mono h₁ (fun env s₂ h₂=>wpAny_bind (wpAny_enterFrame h₂.1 hroom (wpAny_pure ⟨rfl,rfl,h₂.2⟩))) fun _ _ k=>k)) fun _ _ k=>k)
end
variable [GenI]
section
variable {prog:Program} {w:World}
noncomputable def TrS (prog:Program) (w:World) (A:Around) {α:Type} (t:Sem α) (h:Heap) (P:α→Heap→Prop) (X:Value→Heap→Prop):Prop:=
 ∀(g:Array GenState) (d:Drawn) (tk:Nat) (os:OsState) (Q:α→Shared→Prop) (E:Value→Shared→Prop),GenI.ok g→
  (∀a h' g' tk',GenI.ok g'→P a h'→Q a ⟨h',g',d,tk',os⟩)→(∀e h' g' tk',GenI.ok g'→X e h'→E e ⟨h',g',d,tk',os⟩)→wpS (model prog w) A t Q E ⟨h,g,d,tk,os⟩
noncomputable def TcS (prog:Program) (w:World) (A:Around) (c:Code) (h:Heap) (P:Value→Heap→Prop) (X:Value→Heap→Prop):Prop:=
 ∀(g:Array GenState) (d:Drawn) (tk:Nat) (os:OsState) (Q:Value→Shared→Prop) (E:Value→Shared→Prop),GenI.ok g→
  (∀a h' g' tk',GenI.ok g'→P a h'→Q a ⟨h',g',d,tk',os⟩)→(∀e h' g' tk',GenI.ok g'→X e h'→E e ⟨h',g',d,tk',os⟩)→
  codeS (model prog w) A c (fun r s'=>match r with | .ok (.ret v)=>Q v s' | .ok _=>False | .error e=>E e s') ⟨h,g,d,tk,os⟩
variable {A:Around} {α β:Type} {t:Sem α} {h:Heap} {P P':α→Heap→Prop} {X X':Value→Heap→Prop}
theorem TrS.of (ht:Tr prog w A t h P X):TrS prog w A t h P X:=fun g d tk os Q E hg hq he=>.of (ht g d tk os Q E hg hq he)
theorem TcS.of {c:Code} {P} (ht:Tc prog w A c h P X):TcS prog w A c h P X:=fun g d tk os Q E hg hq he=>.of (ht g d tk os Q E hg hq he)
theorem TcS.tr {f:Value} {pos:List Value} {kw:List (Str×Value)} {P} (t:TcS prog w A (.call f ⟨pos,kw⟩) h P X):TrS prog w A (call f pos kw) h P X:=
 fun g d tk os Q E hg hq he=>.call (t g d tk os Q E hg hq he)
theorem TrS.mono (ht:TrS prog w A t h P X) (hP:∀a h',P a h'→P' a h') (hX:∀e h',X e h'→X' e h'):TrS prog w A t h P' X':=
 fun g d tk os Q E hg hq he=>ht g d tk os Q E hg (fun a h' g' tk' hg' hp=>hq a h' g' tk' hg' (hP a h' hp)) (fun e h' g' tk' hg' hx=>he e h' g' tk' hg' (hX e h' hx))
theorem TrS.post (ht:TrS prog w A t h P X) (hP:∀a h',P a h'→P' a h'):TrS prog w A t h P' X:=ht.mono hP fun _ _ x=>x
theorem TrS.noE (ht:TrS prog w A t h P noX):TrS prog w A t h P X:=ht.mono (fun _ _ x=>x) fun _ _ x=>x.elim
theorem TrS.bind {m:Sem α} {f:α→Sem β} {R:β→Heap→Prop} (hm:TrS prog w A m h P X) (hf:∀a h',P a h'→TrS prog w A (f a) h' R X):TrS prog w A (m >>= f) h R X:=
 fun g d tk os Q E hg hq he=>.bind (hm g d tk os _ E hg (fun a h' g' tk' hg' hp=>hf a h' hp g' d tk' os Q E hg' hq he) he)
theorem TrS.bindA {m:Sem α} {f:α→Sem β} {R:β→Heap→Prop} (hm:Tr prog w A m h P X) (hf:∀a h',P a h'→TrS prog w A (f a) h' R X):TrS prog w A (m >>= f) h R X:= .bind (.of hm) hf
end
end
section
set_option tactic.hygienic false
open PySem PySem.W PyProof.Rows
variable [GenI]
section
variable {prog:Program} {w:World} {A:Around} {env:Env} {h:Heap} {X:Value→Heap→Prop} {P:Flow→Heap→Prop} {rest:List Stmt} {st:Stmt} {B:PM} {ms:List (Addr×OP)} {L:Addr} {nms:List Str} {avs:List AV} {pos:Pos} {K:Frag} {es:List PySem.Expr}
theorem CdS.step {R:Flow→Heap→Prop} (h1:Tr prog w A (exec st env) h R X) (k:∀f h',R f h'→(f = .next∧TrS prog w A (execs rest env) h' P X)∨(f≠ .next∧P f h')):TrS prog w A (execs (st::rest) env) h P X:=by
 intro g d tk os Q E hg hq he
 rw [execs_cons]
 refine .bindA (h1 g d tk os _ E hg (fun f h' g' tk' hg' r=>?_) he)
 rcases k f h' r with⟨rfl,k⟩ | ⟨hf,k⟩
 ·exact k g' d tk' os Q E hg' hq he
 ·cases f <;> first | exact absurd rfl hf | exact .of (wpAny_pure (hq _ _ _ _ hg' k))
theorem CdS.head {R:Flow→Heap→Prop} (h1:TrS prog w A (exec st env) h R X) (k:∀f h',R f h'→(f = .next∧Tr prog w A (execs rest env) h' P X)∨(f≠ .next∧P f h')):TrS prog w A (execs (st::rest) env) h P X:=by
 intro g d tk os Q E hg hq he
 rw [execs_cons]
 refine .bindS (h1 g d tk os _ E hg (fun f h' g' tk' hg' r=>?_) he)
 rcases k f h' r with⟨rfl,k⟩ | ⟨hf,k⟩
 ·exact k g' d tk' os Q E hg' hq he
 ·cases f <;> first | exact absurd rfl hf | exact wpAny_pure (hq _ _ _ _ hg' k)
theorem CdS.ret {e:PySem.Expr} (h1:TrS prog w A (eval e env) h (fun v h1=>P (.ret v) h1) X):TrS prog w A (execs (.Return (some e) pos::rest) env) h P X:=
 CdS.head (R:=fun f h'=>∃v,f = .ret v∧P f h') (fun g d tk os Q E hg hq he=>by
  rw [exec_Return_some]
  exact .bindA (wpAny_standAt (.bindS (h1 g d tk os _ E hg (fun v h1 g1 tk1 hg1 k=>wpAny_pure (hq _ _ _ _ hg1 ⟨v,rfl,k⟩)) he)))) fun f h' ⟨v,e,k⟩=>.inr ⟨by rw [e];nofun,k⟩
theorem CdS.ifF {c:PySem.Expr} {b1 b2:List Stmt} (hc:Et prog w A env h c false) (k:TrS prog w A (execs (b2++rest) env) h P X):TrS prog w A (execs (.If c b1 b2 pos::rest) env) h P X:=by
 intro g d tk os Q E hg hq he
 rw [execs_cons,exec_If,bind_assoc]
 refine .bindA (wpAny_standAt ?_)
 rw [bind_assoc]
 refine .bindA (hc g d tk os _ E fun tk'=>?_)
 have k:=k g d tk' os Q E hg hq he
 rw [execs_append] at k
 exact k
theorem CdS.assign {x:Str} {p1:Pos} {e:PySem.Expr} (O:EnvOk env L nms) (i:Nat) (hx:nms[i]?=some x)
  (h1:TrS prog w A (eval e env) h (fun v h1=>∃B ms avs av,St B ((L,FrameO nms avs)::ms) h1∧av.ok v∧∀h2,St B ((L,FrameO nms (avs.set i av))::ms) h2→Tr prog w A (execs rest env) h2 P X) X)
  (hnd:nms.Nodup:=by decide) (hs:swapsWith e (some (.Name x p1)) pos.line env=pure false:=by rfl):TrS prog w A (execs (.Assign [.Name x p1] e pos::rest) env) h P X:=by
 refine CdS.head (R:=fun f h'=>f = .next∧Tr prog w A (execs rest env) h' P X) (fun g d tk os Q E hg hq he=>?_) fun f h' r=>.inl r
 rw [exec_Assign_Name env x p1 e pos hs]
 refine .bindA (wpAny_standAt (.bindS (h1 g d tk os _ E hg (fun v h1 g1 tk1 hg1 zq0=>?_) he)))
 obtain⟨B,ms,avs,av,S,hv,k⟩:=zq0
 exact wpAny_bind (wpAny_standAt (wpAny_bind (wpAny_bindName (store_at O S hx hv hnd fun h2 tk2 S2=>wpAny_pure (hq _ _ _ _ hg1 ⟨rfl,k h2 S2⟩)))))
theorem CdS.tryNext {b:List Stmt} {h0:ExceptHandler} {hs:List ExceptHandler} (h1:TrS prog w A (execs b env) h (fun f h'=>f = .next∧Tr prog w A (execs rest env) h' P X) noX):TrS prog w A (execs (.Try b (h0::hs) [] [] pos::rest) env) h P X:=by
 refine CdS.head (R:=fun f h'=>f = .next∧Tr prog w A (execs rest env) h' P X) (fun g d tk os Q E hg hq he=>?_) fun f h' r=>.inl r
 rw [arm_exec_Try]
 refine .bindA (wpAny_standAt ?_)
 show wpS _ A ((execs b env).attempt >>= _) _ _ _
 refine .bindS (.attempt (h1 g d tk os _ _ hg (fun f h' g' tk' hg' r=>?_) (fun _ _ _ _ _ x=>x.elim)))
 rw [r.1]
 exact wpAny_execs_nil (hq _ _ _ _ hg' ⟨rfl,r.2⟩)
theorem Cd.tryNext {b:List Stmt} {h0:ExceptHandler} {hs:List ExceptHandler} (h1:Tr prog w A (execs b env) h (fun f h'=>f = .next∧Tr prog w A (execs rest env) h' P X) noX):Tr prog w A (execs (.Try b (h0::hs) [] [] pos::rest) env) h P X:=by
 refine Cd.cons (R:=fun f h'=>f = .next∧Tr prog w A (execs rest env) h' P X) (fun g d tk os Q E hg hq he=>?_) fun f h' r=>.inl r
 refine wpAny_Try_except (h1 g d tk os _ _ hg (fun f h' g' tk' hg' r=>?_) (fun _ _ _ _ _ x=>x.elim))
 rw [r.1]
 exact wpAny_execs_nil (hq _ _ _ _ hg' ⟨rfl,r.2⟩)
theorem TrS.evNil {P:List Value→Heap→Prop} (hp:P [] h):TrS prog w A (evL [] env) h P X:= .of (.evNil hp)
theorem TrS.evCons {e:PySem.Expr} {P:List Value→Heap→Prop} (h1:TrS prog w A (eval e env) h (fun v h1=>TrS prog w A (evL es env) h1 (fun vs h2=>P (v::vs) h2) X) X):TrS prog w A (evL (e::es) env) h P X:=by
 intro g d tk os Q E hg hq he
 show wpS _ A (eval e env >>= _) Q E _
 refine .bind (h1 g d tk os _ E hg (fun v h1 g1 tk1 hg1 k=>?_) he)
 refine .bindA (wpAny_pure (.bindS (.holding (k g1 d tk1 os _ E hg1 (fun vs h2 g2 tk2 hg2 p=>wpAny_pure (hq _ _ _ _ hg2 p)) he))))
theorem TrS.evE {e:PySem.Expr} {P:List Value→Heap→Prop} {av:AV} (he:Ev prog w A env h e av) (k:∀v,av.ok v→TrS prog w A (evL es env) h (fun vs h2=>P (v::vs) h2) X):TrS prog w A (evL (e::es) env) h P X:= .evCons (.of (.ofEv he k))
theorem wpS.keep {α:Type} {M:Model} {s:Shared} {E:Value→Shared→Prop} {vs:List Value} {m:Sem α} {Q:α→Shared→Prop} (h:wpS M A m Q E s):wpS M A (m.keep vs) Q E s:=fun Γ p hi hc=>by rw [Sem.wp_keep];exact h Γ p hi hc
theorem wpS.iteB {α:Type} {M:Model} {s:Shared} {E:Value→Shared→Prop} {c:Prop} {_:Decidable c} {t t':Sem α} {Q:α→Shared→Prop} (h:wpS M A t Q E s) (h':wpS M A t' Q E s):wpS M A (if c then t else t') Q E s:=by
 by_cases q:c
 ·rw [if_pos q];exact h
 ·rw [if_neg q];exact h'
theorem wpS.callWith {E:Value→Shared→Prop} {s:Shared} {f:Value} {first:List Value} {Q:Value→Shared→Prop} (hs:wpS (model prog w) A (evL es env) (fun vs s₁=>Kp prog w s₁.heap f∧wpS (model prog w) A (PySem.call f (first++vs)) Q E s₁) E s) (hn:StarE es env:=by rfl):
  wpS (model prog w) A (PySem.callWith pos f first (backTo pos (starEach es env)) []) Q E s:=by
 rw [backTo_of hn]
 have ev:wpS (model prog w) A (evalArgs f true (es.map fun e=>(false,eval e env)) []) (fun a s₁=>a.kw = []∧Kp prog w s₁.heap f∧wpS (model prog w) A (PySem.call f (first++a.pos)) Q E s₁) E s:=by
  cases es with
  | nil=>
   show wpS _ A (spliced [] >>= _) _ E _
   exact .bindS (hs.mono (fun vs s₁ k=>wpAny_holding (wpAny_bind (wpAny_pure (wpAny_bind (wpAny_pure (wpAny_pure ⟨rfl,k⟩)))))) fun _ _ x=>x)
  | cons e0 r=>
   show wpS _ A (spliced ((false,eval e0 env)::r.map fun e=>(false,eval e env)) >>= _) _ E _
   exact .bindS (hs.mono (fun vs s₁ k=>wpAny_holding (wpAny_bind (wpAny_pure (wpAny_bind (wpAny_pure (wpAny_pure ⟨rfl,k⟩)))))) fun _ _ x=>x)
 show wpS _ A (PySem.holding (f::first) (evalArgs f true (es.map fun e=>(false,eval e env)) []) >>= _) _ _ _
 refine .bind (.holding (ev.mono (fun a s₁ k=>?_) fun _ _ x=>x))
 obtain⟨hkw,⟨kp,hk,Lk⟩,k⟩:=k
 refine .bindA (wpAny_standAt ?_)
 rw [any_of,hkw]
 refine .bindA (Lk.here ?_)
 have tail:∀{t:Sem Value},wpS (model prog w) A t Q E s₁→wpS (model prog w) A (t >>= fun r=>PySem.holding [r] point >>= fun _=>pure r) Q E s₁:=
  fun ht=>.bindS (ht.mono (fun r s₂ hr=>wpAny_bind (wpAny_holding (wpAny_point (wpAny_pure hr)))) fun _ _ x=>x)
 rcases hk with rfl | rfl | rfl
 ·exact .iteB (tail k) (tail (.keep k))
 ·exact tail k
 ·exact .iteB (tail k) (tail (.keep k))
theorem TrS.callWith {f:Value} {first:List Value} {P:Value→Heap→Prop} (h1:TrS prog w A (evL es env) h (fun vs h1=>Kp prog w h1 f∧TrS prog w A (call f (first++vs)) h1 P X) X) (hn:StarE es env:=by rfl):
  TrS prog w A (PySem.callWith pos f first (backTo pos (starEach es env)) []) h P X:=
 fun g d tk os Q E hg hq he=>.callWith (h1 g d tk os _ E hg (fun vs h1 g1 tk1 hg1 k=>⟨k.1,k.2 g1 d tk1 os Q E hg1 hq he⟩) he) hn
theorem TrS.callName {x:Str} {np:Pos} {f:Value} {P:Value→Heap→Prop} (hf:Ev prog w A env h (.Name x np) (.val f)) (h1:TrS prog w A (evL es env) h (fun vs h1=>Kp prog w h1 f∧TrS prog w A (call f vs) h1 P X) X) (hn:StarE es env:=by rfl):
  TrS prog w A (eval (.Call (.Name x np) es [] pos) env) h P X:=by
 intro g d tk os Q E hg hq he
 show wpS _ A (do PySem.callWith pos (←eval (.Name x np) env) [] (backTo pos (starEach es env)) (backToKw pos (keywordEach [] env))) Q E _
 refine .bindA (hf g d tk os _ E fun v tk' hv=>?_)
 have hv':v=f:=hv
 subst hv'
 exact TrS.callWith (first:=[]) h1 hn g d tk' os Q E hg hq he
theorem calm_b {id:String} {args:Args} (h:(id != "lifetime.gc.finalise")=true:=by decide):calmC (.builtin id args)=true:=h
theorem wpS.specialFn {M:Model} {E:Value→Shared→Prop} {s:Shared} {x C:Addr} {ox:Obj} {od:Option Obj} {name:Str} {f:Addr} {args:List Value} {Q:Option Value→Shared→Prop} (X:K.In s.heap) (I:InstAt s.heap x ox C od)
  (hs:findIn K (.ref C) name=some (some (.ref f))) (hf:typeIn K (.ref f)=some (.type "function")) (h:wpS M A (PySem.call (.ref f) (.ref x::args)) (fun v=>Q (some v)) E s):wpS M A (callSpecial? (.ref x) name args) Q E s:=
 .bindA (wpAny_bind (I.type.here ((looks_findIn X hs).here (.holding (.bindA ((bind_fn X _ hf).here (.bindS (h.mono (fun _ _ z=>wpAny_pure z) fun _ _ z=>z))))))))
inductive SubS (prog:Program) (w:World) (A:Around) (env:Env) (X P:Value→Heap→Prop) (K:Frag) (i:PySem.Expr) (k:AV) (v:Value) (h1:Heap):Prop
 | mk (x C f:Addr) (ox:Obj) (od:Option Obj) (e:v = .ref x) (hK:K.In h1) (I:InstAt h1 x ox C od) (M:MethF K C "__getitem__" f) (hf:fnIn K f=true) (hi:Ev prog w A env h1 i k) (k1:∀vi,k.ok vi→TrS prog w A.in1 (call (.ref f) [.ref x,vi]) h1 P X)
theorem TrS.subOwn {e i:PySem.Expr} {P:Value→Heap→Prop} {k:AV}
  (he:TrS prog w A (eval e env) h (SubS prog w A env X P K i k) X)
  (hsl:∀o vi,subscripted i true o vi=runValue (.builtin "lifetime.subscript" ⟨[o,vi],[]⟩):=by intro _ _;with_unfolding_all rfl):TrS prog w A (eval (.Subscript e i pos) env) h P X:=by
 intro g d tk os Q E hg hq hE
 rw [eval_Subscript]
 refine .bind (he g d tk os _ E hg (fun v h1 g1 tk1 hg1 z=>?_) hE)
 obtain⟨x,C,f,ox,od,e1,X1,I,M,hf,hi,k1⟩:=z
 subst e1
 refine .bindA (wpAny_holding (hi g1 d tk1 os _ E fun vi tk2 hvi=>?_))
 refine .bindA (wpAny_standAt ?_)
 obtain⟨_,_,_,_,ef⟩:=fn_of hf
 unfold getitemInPython
 refine .bindA (wpAny_bind (wpAny_bind (I.type.at ((looks_findIn X1 M.find).at ?_))))
 dsimp only
 refine wpAny_bind (wpAny_load (X1 _ _ ef) (wpAny_pure ?_))
 dsimp only
 rw [hsl]
 refine .bindS (.runValue calm_b (codeS.builtin entry_sub ?_))
 unfold Builtin.«lifetime.subscript»
 refine .bindS (wpS.specialFn (s:=⟨h1,g1,d,tk2,os⟩) X1 I M.find M.fn (k1 vi hvi g1 d tk2 os _ _ hg1 (fun v h2 g2 tk3 hg2 p=>?_) (fun e h2 g2 tk3 hg2 p=>hE _ _ _ _ hg2 p)))
 refine wpAny_pure ?_
 exact wpAny_bind (wpAny_letTemporaryGo (wpAny_pure (hq _ _ _ _ hg2 p)))
theorem wpS.getBind {E:Value→Shared→Prop} {s:Shared} {x C:Addr} {ox:Obj} {od:Option Obj} {name:Str} {expr:Bool} {Q:Value→Shared→Prop} {g a:Value} (X:K.In s.heap) (I:InstAt s.heap x ox C od) (hga:findIn K (.ref C) "__getattribute__" =some (some (.builtin "object.__getattribute__")))
  (hf:findObj K C od name=some (.bind g a)) (hk:findIn K (.ref C) "__getattr__" =some none)
  (h:wpS (model prog w) A.in1 (PySem.call g [a,.ref x,.ref C]) (fun v s'=>wpAny (model prog w) A (handedOut v) Q E s') (fun e s'=>wpAny (model prog w) A (noteIf true (.ref x) (.str name s.toks) e) (fun _ s''=>E e s'') E s') { s with toks:=s.toks+1}):
  wpS (model prog w) A (getAttr (.ref x) name expr) Q E s:=by
 obtain⟨hh,gg,d,t,os⟩:=s
 have L0:=I.type (M:=model prog w)
 have L1:=looks_findIn (M:=model prog w) X hga
 have L2:=looks_find (M:=model prog w) X I hf
 have L3:=looks_findIn (M:=model prog w) X hk
 unfold getAttr getAttrBy
 refine .bindA (wpAny_mkText (.holding (.bindA (L0.at (.bindA (L1.at ?_))))))
 show wpS _ _ (getAttrEveryday _ _ _) _ _ _
 unfold getAttrEveryday
 refine .bindS (.onRaise (.runValue calm_b (codeS.builtin F.plainObj_entry_getattr_hooked ?_)))
 refine .bindA (wpAny_pure (.bindA (L0.at (.bindA (L2.at (.bindA (L3.at ?_)))))))
 show wpS _ _ (PySem.holding [a] (PySem.call g [a,.ref x,.ref C]) >>= ret) _ _ _
 refine .bindS (.holding (h.mono (fun v s' z=>wpAny_pure z) fun _ _ z=>z))
theorem TrS.attrBind {o:PySem.Expr} {name:Str} {x C:Addr} {ox:Obj} {od:Option Obj} {gv a:Value} {P:Value→Heap→Prop} (ho:Ev prog w A env h o (.val (.ref x))) (hX:K.In h) (hC:Cls K C) (I:InstAt h x ox C od) (hf:findObj K C od name=some (.bind gv a))
  (h1:TrS prog w A.in1 (call gv [a,.ref x,.ref C]) h (fun v h'=>handedIn v=true∧P v h') noX)
  (he:eval (.Attribute o name pos) env=(do
   let o' ←eval o env
   standAt pos.atName
   let r ←holding [o'] (getAttr o' name true)
   letTemporaryGo o o' r
   Pure.pure r):=by with_unfolding_all rfl):TrS prog w A (eval (.Attribute o name pos) env) h P X:=by
 intro g d tk os Q E hg hq hE
 rw [he]
 refine .bindA (ho g d tk os _ E fun v tk1 hv=>?_)
 have hv':v = .ref x:=hv
 subst hv'
 refine .bindA (wpAny_standAt (.bindS (.holding ?_)))
 refine wpS.getBind (s:=⟨h,g,d,tk1,os⟩) hX I hC.get hf hC.hook (h1 g d (tk1+1) os _ _ hg (fun v h2 g2 tk2 hg2 p=>?_) (fun _ _ _ _ _ z=>z.elim))
 exact handed_on p.1 (wpAny_bind (wpAny_letTemporaryGo (wpAny_pure (hq _ _ _ _ hg2 p.2))))
end
end
section
open PySem PySem.W PyProof.Rows
variable [GenI]
section
variable {prog:Program} {w:World} {A:Around} {env:Env} {h:Heap} {X:Value→Heap→Prop} {B:PM} {ms:List (Addr×OP)} {L:Addr} {nms:List Str} {avs:List AV} {pos:Pos} {K:Frag}
theorem TcS.callFnCX {a:Addr} {s:Stmt} {qual:Str} {dV kV:Value} {pos:List Value} {kw:List (Str×Value)} {binds:List (Str×Value)} {P:Value→Heap→Prop} {XB:Addr→Value→Value→Heap→Prop} {d u:Nat} (R:Room A (d+1) (u+3)) (F:FnAt B a s qual dV kV) (hl:NoLim B) (S:St B ms h)
  (hb:∀x s',s'.heap=h→BindsTo s' (fdOf s qual dV kV x) ⟨pos,kw⟩ binds) (nms:List Str) (avs:List AV) (cs:List (Str×Nat×Option AV))
  (hkind:∀L,∀x∈binds,(fnScope s).names.lookup x.1=some .local∨((fnScope s).names.lookup x.1=some .cell∧((cellsFrom (L+1) (fnScope s).names []).lookup x.1).isSome=true))
  (hf:Fits nms avs (bindL (fun x=>(fnScope s).names.lookup x) binds fun _=>none))
  (hcs:∀L,∀c∈cs,(cellsFrom (L+1) (fnScope s).names []).lookup c.1=some (L+1+c.2.1))
  (hcv:∀c∈cs,match c.2.2 with | some av=>av.inn (bindC (fun x=>(fnScope s).names.lookup x) binds (fun _=>none) c.1) | none=>bindC (fun x=>(fnScope s).names.lookup x) binds (fun _=>none) c.1=none)
  (hcn:(cs.map (·.2.1)).Nodup)
  (k:∀L h1 cd,(∃o fd,B a=some o∧o.data = .func fd∧fd.code=cd)→Room (A.deeper (envC s qual L a cd)) d u→St B ((L,FrameO nms avs)::(cs.map (fun c=>(L+1+c.2.1,CellW c.2.2))++ms)) h1→TrS prog w (A.deeper (envC s qual L a cd)) (execs (fnBody s) (envC s qual L a cd)) h1 (fun f h2=>P (match f with | .ret v=>v | _=>.none) h2) (XB L cd))
  (hX:∀L cd e h2,XB L cd e h2→Tr prog w (A.deeper (envC s qual L a cd)) (leaving (envC s qual L a cd) e) h2 (fun _ h3=>X e h3) noX)
  (hco:(fnScope s).isCoroutine=false:=by rfl) (hgen:(fnScope s).isGenerator=false:=by rfl) (hk:(fnScope s).kind = .function:=by rfl):
  TcS prog w A (.call (.ref a) ⟨pos,kw⟩) h P X:=by
 intro g dr tk os Q E hg hq he
 obtain⟨oc,od,sl,x,e,c,o,vs,t,e1,e2,e3,e4⟩:=F
 obtain⟨oS,mc,hS,hSn,hSl⟩:=hl
 refine codeS.defCall (fd:=fdOf s qual dV kV x) (by have:=R.dp;exact nt204 this) (S.keep _ _ e) rfl hco hgen rfl ⟨c,o,vs,t,e1,S.keep _ _ e2,e3,e4⟩ (hb x _ rfl _ _ _ _ ?_)
 refine wpAny_newFunctionEnv_cells hk (hkind _) fun env henv s' I=>?_
 subst henv
 obtain⟨h1,tk1,rfl⟩:=I.toInCall.same
 have hlim:Heap.NoLimit h1:=⟨mc,ns_iff.mpr ⟨oS,I.toInCall.keep _ _ (S.keep _ _ hS),hSn⟩,hSl⟩
 refine⟨hlim,codeS.func ?_⟩
 obtain⟨oL,hoL,hno⟩:=ns_iff.mp I.toInCall.ns
 have none_of:∀a,h.objs.size≤a→h.get? a=none:=fun a ha=>by
  cases q:h.get? a with
  | none=>rfl
  | some o=>exact absurd (Heap.lt_size q) (Nat.not_lt.mpr ha)
 have S1:St B (((h.objs.size,FrameO nms avs)::cs.map (fun c=>(h.objs.size+1+c.2.1,CellW c.2.2)))++ms) h1:=by
  refine S.newMs I.toInCall.keep (fun p hp=>?_) ?_
  ·rcases List.mem_cons.mp hp with rfl | hp
   ·exact⟨St.push_none h,S.size2,oL,hoL,_,hno,hf⟩
   ·obtain⟨c,hc,rfl⟩:=List.mem_map.mp hp
    obtain⟨oc,hoc,hd⟩:=I.cell c.1 _ (hcs _ c hc)
    exact⟨none_of _ (Nat.le_trans (Nat.le_succ _) (Nat.le_add_right ..)),Nat.lt_of_lt_of_le S.size2 (Nat.le_trans (Nat.le_succ _) (Nat.le_add_right ..)),oc,hoc,_,hd,hcv c hc⟩
  ·rw [List.map_cons,List.map_map]
   refine List.nodup_cons.mpr ⟨fun q=>?_,?_⟩
   ·obtain⟨c,_,e⟩:=List.mem_map.mp q
    exact absurd (show h.objs.size+1+c.2.1=h.objs.size from e) nt191
   ·have e:(cs.map ((·.1) ∘ fun c=>(h.objs.size+1+c.2.1,CellW c.2.2)))=(cs.map (·.2.1)).map (h.objs.size+1 + ·):=by rw [List.map_map];rfl
    rw [e]
    exact List.Pairwise.map (h.objs.size+1 + ·) (fun a b hab e=>hab (by simpa using e)) hcn
 refine k h.objs.size h1 x.cdv ⟨_,_,e,rfl,rfl⟩ R.deeper S1 g dr _ os _ _ hg (fun f h2 g2 tk2 hg2 p=>?_) (fun e' h2 g2 tk2 hg2 q=>?_)
 ·exact hq _ _ _ _ hg2 p
 ·exact hX _ _ e' h2 q g2 dr tk2 os _ _ hg2 (fun _ h3 g3 tk3 hg3 p=>he _ _ _ _ hg3 p) fun _ _ _ _ _ z=>z.elim
end
structure DictF (K:Frag) (C p:Addr):Prop where
 find:findIn K (.ref C) "__dict__" =some (some (.ref p))
 rcd:∃t owner r,recIn K p "getset_descriptor" =some (.str "__dict__" t::owner:: .builtin "function.__dict__" ::r)∧r.length≤1∧mroIn K C owner=some true
 get:specialIn K (.ref p) "__get__" =some (some (.builtin "getset_descriptor.__get__"))
 takes:takesIn K (.ref p)=some true
 st:mroIn K C (.type "staticmethod")=some false
 cm:mroIn K C (.type "classmethod")=some false
 cls:∃cd,clsIn K C=some cd∧cd.hasDict=true
inductive NoThr (B:PM):Prop
 | mk (o mc) (f1:B cStatics=some o) (f2:NsO mc o) (f3:mc "_thread.count" =none):NoThr B
theorem NoThr.le {B B':PM} (G:NoThr B) (h:B.le B'):NoThr B':=by
 obtain⟨o,mc,e,r,r'⟩:=G
 exact⟨o,mc,h _ _ e,r,r'⟩
theorem entry_fdict:entryFor table "function.__dict__" =some Builtin.«function.__dict__»:=entryFor_of_tree (by kernel_rfl)
section
variable {M:Model} {A:Around} {E:Value→Shared→Prop} {s:Shared}
theorem wpS.ite {α:Type} {c:Prop} [Decidable c] {a b:Sem α} {Q:α→Shared→Prop} (h1:c→wpS M A a Q E s) (h2:¬c→wpS M A b Q E s):wpS M A (if c then a else b) Q E s:=by
 split
 ·exact h1 ‹_›
 ·exact h2 ‹_›
theorem wpS.handedOut {x C dx:Addr} {ox od:Obj} {cd:ClassData} {K:Frag} {mc:Str→Option Value} {Q:Option Addr→Shared→Prop} (X:K.In s.heap) (hx:s.heap.get? x=some ox) (hc:ox.cls = .ref C) (hcd:clsIn K C=some cd) (hdt:cd.hasDict=true) (hdx:ox.dict=some dx) (hod:s.heap.get? dx=some od)
  (hS:s.heap.Ns cStatics mc) (hT:mc "_thread.count" =none) (h:Q (some dx) { s with heap:=s.heap.update dx fun o=>if o.slots.isEmpty then { o with slots:= #[none]} else o}):wpS M A (instanceDictHandedOut x) Q E s:=by
 have L1:=looks_clsIn (M:=M) X hcd
 show wpS M A (instanceDict x true >>= _) Q E s
 refine .bindA ?_
 unfold instanceDict
 refine wpAny_bind (wpAny_loadPart hx ?_)
 rw [hc]
 refine wpAny_bind ?_
 refine L1.at ?_
 rw [hdt,hdx]
 refine wpAny_pure ?_
 refine .bindA (wpAny_loadPart hx ?_)
 rw [hc]
 refine .bind ?_
 show wpS M A (load dx >>= _) _ _ _
 refine .bindA (wpAny_load hod ?_)
 have fin:wpS M A (update dx (fun o=>if o.slots.isEmpty=true then { o with slots:= #[none]} else o) >>= fun _=>(pure (some dx):Sem (Option Addr))) Q E s:= .of (wpAny_bind (wpAny_update hod (wpAny_pure h)))
 refine wpS.ite (fun _=>.of (wpAny_pure fin)) fun _=>.bind (wpS.stack fun st hst=>?_)
 rw [List.findSome?_eq_none_iff.mpr]
 ·exact .bindA (wpAny_nsGet hS (by rw [hT];exact .of (wpAny_pure fin)))
 intro x hxm
 have hq:=hst x hxm
 split
 ·rename_i e
  rw [e] at hq
  have hq':("lifetime.gc.finalise" != "lifetime.gc.finalise")=true:=hq
  exact absurd hq' (by decide)
 ·rfl
end
end
section
set_option tactic.hygienic false
open PySem PySem.W PyProof.Rows Builtin Builtin.Getset_descriptor
variable [GenI]
section
variable {prog:Program} {w:World} {A:Around} {E:Value→Shared→Prop} {s:Shared} {R:Result→Shared→Prop}
theorem codeS.callBuiltin {id:String} {args:Args} {b:Builtin} (hq:plainId id=true) (hcl:calmC (.builtin id args)=true) (hb:entryFor table id=some b)
  (h:wpAny (model prog w) A.in1 (checkBuiltinCall id args) (fun _ s₁=>wpS (model prog w) A.in1 (b args) (finS prog w A R) (fun e s'=>R (.error e) s') s₁) (fun e s'=>R (.error e) s') s):
  codeS (model prog w) A (.call (.builtin id) args) R s:=by
 refine .tree ?_
 show wpS _ A.in1 (do checkBuiltinCall id args;again (.builtin id args)) _ _ s
 refine .bindA (wpAny_mono h (fun _ s₁ h₁=>?_) fun _ _ k=>k)
 exact .of (wpAny_pure ⟨plainId_quiet hq args,hcl,codeS.builtin hb (by rw [Around.under_plainId hq args];exact h₁)⟩)
theorem gsDict {K:Frag} {x C p dx:Addr} {ox od:Obj} {tp:Value} {mc:Str→Option Value} (X:K.In s.heap) (D:DictF K C p) (I:InstAt s.heap x ox C (some od)) (hdx:ox.dict=some dx) (hod:s.heap.get? dx=some od)
  (hS:s.heap.Ns cStatics mc) (hT:mc "_thread.count" =none) (h:R (.ok (.ret (.ref dx))) { s with heap:=s.heap.update dx fun o=>if o.slots.isEmpty then { o with slots:= #[none]} else o}):
  codeS (model prog w) A (.call (.builtin "getset_descriptor.__get__") ⟨[.ref p,.ref x,tp],[]⟩) R s:=by
 obtain⟨t,owner,r,hr,hlen,hown⟩:=D.rcd
 obtain⟨d,sl,ho⟩:=rec_of X hr
 obtain⟨cd,hcd,hhd⟩:=D.cls
 obtain⟨hh,g,dr,tk,os⟩:=s
 have L0:=I.type (M:=model prog w)
 have L1:=looks_mroIn (M:=model prog w) X hown
 have L2:=looks_mroIn (M:=model prog w) X D.st
 have L3:=looks_mroIn (M:=model prog w) X D.cm
 have hx:=I.at_
 dsimp only at ho hx L0 L1 L2 L3 hod
 have f0:=looks_field (M:=model prog w) ho 0 (v:= .str "__dict__" t) rfl
 have f1:=looks_field (M:=model prog w) ho 1 (v:=owner) rfl
 have f2:=looks_field (M:=model prog w) ho 2 (v:= .builtin "function.__dict__") rfl
 refine .callBuiltin KF.slot_gs.plain calm_b KF.entry_gs (KF.slot_gs.check _ _ _ _ _ _ _ _ ⟨_,ho,rfl⟩ (KF.args_gs _ _ _) ?_)
 unfold Builtin.«getset_descriptor.__get__» descrGet
 rw [dga_obj]
 refine .bindA (wpAny_pure ?_)
 unfold descrGetter
 have chk:Looks (model prog w) hh (descrCheckInstance (.ref p) (.ref x)) ():=by
  unfold descrCheckInstance descrNameAndClass isInstance
  intro A Q E s k q
  refine wpAny_bind ?_
  refine wpAny_bind (f0 _ _ _ _ k ?_)
  dsimp only
  refine wpAny_bind (f1 _ _ _ _ k (wpAny_pure ?_))
  dsimp only
  refine wpAny_bind (wpAny_bind (L0 _ _ _ _ k (L1 _ _ _ _ k ?_)))
  exact wpAny_pure q
 refine .bindA (chk.here ?_)
 refine .bindA (f2.here ?_)
 refine .bindA (wpAny_rule ?_)
 have itself:Looks (model prog w) hh (descrItself (.ref p)) []:=by
  unfold descrItself
  intro A Q E s k q
  refine wpAny_bind (wpAny_bind (wpAny_load (k _ _ ho) (wpAny_pure ?_)))
  have:¬(Array.mk (Value.str "__dict__" t::owner:: .builtin "function.__dict__" ::r)).size>4:=by
   show ¬(r.length+1+1+1>4)
   exact nt76 hlen
  refine wpAny_pure ?_
  rw [if_neg this]
  exact q
 refine .bindA (itself.here ?_)
 refine .of (wpAny_pure ⟨Code.quiet_builtin _ (by decide +kernel),calm_b,codeS.builtin entry_fdict ?_⟩)
 unfold Builtin.«function.__dict__»
 have isn:∀T b,Looks (model prog w) hh (isSubtype (.ref C) T) b→Looks (model prog w) hh (isInstance (.ref x) T) b:=fun T b L=>by
  unfold isInstance
  exact L0.andThen L
 dsimp only
 refine .bindA ?_
 refine wpAny_bind (m:=isInstance (.ref x) (.type "staticmethod")) ((isn _ _ L2).here ?_)
 refine(isn _ _ L3).here ?_
 simp only [Bool.false_eq_true,if_false]
 refine .bind (wpS.handedOut (s:=⟨hh,g,dr,tk,os⟩) X hx I.cls hcd hhd hdx hod hS hT ?_)
 exact .of (wpAny_pure h)
end
section
variable {prog:Program} {w:World} {A:Around} {env:Env} {h:Heap} {X:Value→Heap→Prop} {B:PM} {ms:List (Addr×OP)} {L:Addr} {nms:List Str} {avs:List AV} {pos:Pos} {K:Frag}
theorem InsW.mark {l:List (Str×Value)} {o:Obj} (h:InsW l o):InsW l (if o.slots.isEmpty then { o with slots:= #[none]} else o):=by
 obtain⟨es,n,sl,rfl,he⟩:=h
 split
 ·exact⟨es,n,_,rfl,he⟩
 ·exact⟨es,n,_,rfl,he⟩
theorem TrS.dictAttr {o:PySem.Expr} {x C p dx:Addr} {l:List (Str×Value)} {ox:Obj} {P:Value→Heap→Prop} {j:Nat} (ho:Ev prog w A env h o (.val (.ref x))) (hK:InK K B) (hC:Cls K C) (D:DictF K C p) (hT:NoThr B) (S:St B ms h) (hox:B x=some ox) (hpl:PlainO C dx (fun _=>True) ox) (hj:ms[j]?=some (dx,InsW l))
  (h1:∀h',St B ms h'→P (.ref dx) h')
  (he:eval (.Attribute o "__dict__" pos) env=(do
   let o' ←eval o env
   standAt pos.atName
   let r ←holding [o'] (getAttr o' "__dict__" true)
   letTemporaryGo o o' r
   Pure.pure r):=by with_unfolding_all rfl):TrS prog w A (eval (.Attribute o "__dict__" pos) env) h P X:=by
 obtain⟨c1,c2,c3,_⟩:=hpl
 obtain⟨od,hod,hl⟩:=S.mem hj
 obtain⟨oS,mc,hS,hSn,hSt⟩:=hT
 have I:=instAt (S.keep _ _ hox) c1 c2 c3 hod
 refine TrS.attrBind ho (hK.in S) hC I (findObj_data (by obtain⟨cd,e,_⟩:=D.cls;rw [e];rfl) D.find D.get D.takes) ?_ he
 intro g d tk os Q E hg hq hE
 refine .call (gsDict (s:=⟨h,g,d,tk,os⟩) (hK.in S) D I c3 hod (ns_iff.mpr ⟨oS,S.keep _ _ hS,hSn⟩) hSt ?_)
 refine hq _ _ _ _ hg ⟨rfl,h1 _ ?_⟩
 have fr:(if od.slots.isEmpty then { od with slots:= #[none]} else od:Obj).isFreed=false:=by
  obtain⟨es,n,sl,rfl,_⟩:=hl
  split <;> rfl
 have S2:=S.upd (P':=InsW l) hj (Heap.SameBut.update h dx (fun o:Obj=>if o.slots.isEmpty then { o with slots:= #[none]} else o)) (Heap.get?_update_self (fun o:Obj=>if o.slots.isEmpty then { o with slots:= #[none]} else o) hod fr) hl.mark
 have e:ms.set j (dx,InsW l)=ms:=by
  obtain⟨hlt,he⟩:=List.getElem?_eq_some_iff.mp hj
  rw [←he];exact List.set_getElem_self hlt
 rw [e] at S2
 exact S2
end
end
section
set_option tactic.hygienic false
open PySem PySem.W PyProof.Rows
variable [GenI]
theorem Ents.strs {es:List DictEntry} {l:List (Str×Value)} (h:Ents es l):es.all (fun e=>isExactStrKey e.key)=true:=by
 induction h with
 | nil=>rfl
 | cons hk hv hr ih=>
  obtain⟨t,hk⟩:=hk
  rw [List.all_cons,ih,hk];rfl
theorem Ents.absent {name:Str} {es:List DictEntry} {l:List (Str×Value)} (h:Ents es l) (hl:l.lookup name=none):es.findIdx? (fun e=>e.key.isStr name)=none:=by
 rcases h.find (name:=name)with⟨a,_⟩ | ⟨e,a,b⟩
 ·rw [List.findIdx?_eq_none_iff]
  intro x hx
  have:=List.find?_eq_none.mp a x hx
  simpa using this
 ·rw [b] at hl;contradiction
theorem Ents.snoc {name:Str} {t:Tok} {hsh:Int} {v:Value} {es:List DictEntry} {l:List (Str×Value)} (h:Ents es l) (hl:l.lookup name=none):Ents (es++[⟨hsh,.str name t,v⟩]) (putA name v l):=by
 induction h with
 | nil=>exact .cons ⟨t,rfl⟩ rfl .nil
 | @cons e es n x l hk hv hr ih=>
  rw [List.lookup_cons] at hl
  by_cases q:n=name
  ·rw [q,beq_self_eq_true] at hl;contradiction
  ·rw [beq_eq_false_iff_ne.mpr (Ne.symm q)] at hl
   rw [putA_cons,if_neg q]
   exact .cons hk hv (ih hl)
section
variable {prog:Program} {w:World} {A:Around} {E:Value→Shared→Prop} {s:Shared}
theorem InsW.typeIs {l:List (Str×Value)} {o:Obj} {dx:Addr} (h:InsW l o) (ho:s.heap.get? dx=some o):s.TypeIs (.ref dx) "dict" :=by
 obtain⟨es,n,sl,rfl,_⟩:=h
 exact⟨_,ho,rfl⟩
theorem InsW.noDict {l:List (Str×Value)} {o:Obj} (h:InsW l o):o.dict=none:=by
 obtain⟨es,n,sl,rfl,_⟩:=h
 rfl
theorem dictFind_absent {dx:Addr} {o:Obj} {l:List (Str×Value)} {name:Str} {t:Tok} {hsh:Int} {Q:Option Nat→Shared→Prop} (ho:s.heap.get? dx=some o) (hl:InsW l o) (hn:l.lookup name=none) (h:Q none s):
  wpAny (model prog w) A (dictFind dx (.str name t) hsh) Q E s:=by
 obtain⟨es,n,sl,rfl,he⟩:=hl
 unfold dictFind
 refine wpAny_holding (wpAny_bind (wpAny_dictEntries ho rfl ?_))
 dsimp only
 have h1:es.toArray.all (fun e=>isExactStrKey e.key)=true:=by rw [←Array.all_toList];exact he.strs
 rw [if_pos h1]
 unfold foundByValue
 have h2:es.toArray.findIdx? (fun e=>e.key.isStr name)=none:=by
  rw [List.findIdx?_toArray];exact he.absent hn
 rw [h2]
 exact wpAny_bind (wpAny_pure (wpAny_pure h))
theorem setItem_new {dx:Addr} {o:Obj} {l:List (Str×Value)} {name:Str} {t:Tok} {v:Value} {Q:Unit→Shared→Prop} (ho:s.heap.get? dx=some o) (hl:InsW l o) (hn:l.lookup name=none) (hz:l.length≤900)
  (h:∀h' tk o',Heap.SameBut dx s.heap h'→h'.get? dx=some o'→InsW (putA name v l) o'→Q () { s with heap:=h',toks:=tk}):wpAny (model prog w) A (setItem (.ref dx) (.str name t) v) Q E s:=by
 have hT:=hl.typeIs ho
 unfold setItem
 try with_reducible refine wpAny_holding ?_
 refine wpAny_bind (wpAny_sequenceKey hT (by decide) ?_)
 refine wpAny_bind (wpAny_callSpecial?_slot (name:=Str.ofString "__setitem__") hT PySem.F.slot_dict_setitem (wpAny_call_entry PySem.F.slot_dict_setitem hT PySem.F.entry_dict_setitem ?_ (PySem.args_dict_setitem _ _ _)))
 show wpAny _ _ (Builtin.Dict.notOrdered "__setitem__" ⟨[.ref dx,.str name t,v],[]⟩ >>= _) _ _ s
 refine wpAny_bind (wpAny_notOrdered_dict hT ?_)
 show wpAny _ _ (dictSet dx (.str name t) v >>= _) _ _ s
 refine wpAny_bind ?_
 unfold dictSet
 refine wpAny_holding (wpAny_bind (wpAny_pyHash_str ?_))
 unfold dictSetHashed
 refine wpAny_holding (wpAny_bind (dictFind_absent (s:={ s with toks:=s.toks+1}) ho hl hn ?_))
 dsimp only
 refine wpAny_bind (wpAny_rule ?_)
 obtain⟨es,n,sl,rfl,he⟩:=hl
 have hlen:=he.length
 refine wpAny_updateDictKeys (hz:=?_) (s:={ s with toks:=s.toks+1}) ho rfl (wpAny_pure ⟨.none,rfl,wpAny_pure (h _ _ _ (Heap.SameBut.update ..) (Heap.get?_update_self _ ho rfl) ⟨es++[⟨hashStr w name,.str name t,v⟩],n+1,sl,?_,he.snoc hn⟩)⟩)
 ·show Obj.mapDictKeys _ { dictOf es n with slots:=sl} =_
  show(⟨.type "dict",none,.dict (es.toArray.push _) (n+1),sl⟩:Obj)=⟨.type "dict",none,.dict (es++[_]).toArray (n+1),sl⟩
  rw [List.push_toArray]
 ·rw [sizeLine_eq,List.size_toArray,hlen];exact nt179 hz hlen
end
section
variable {prog:Program} {w:World} {A:Around} {env:Env} {h:Heap} {X:Value→Heap→Prop} {B:PM} {ms:List (Addr×OP)} {L:Addr} {nms:List Str} {avs:List AV} {pos:Pos} {K:Frag} {rest:List Stmt}
theorem Tr.getMiss {dx:Addr} {j:Nat} {l:List (Str×Value)} {name:Str} {t:Tok} {dflt:Value} {P:Value→Heap→Prop} (S:St B ms h) (hj:ms[j]?=some (dx,InsW l)) (hn:l.lookup name=none) (hp:P dflt h):
  Tr prog w A (call (.builtin "dict.get") [.ref dx,.str name t,dflt]) h P X:=by
 intro g d tk os Q E hg hq he
 obtain⟨o,ho,hl⟩:=S.mem hj
 have hT:=hl.typeIs (s:=⟨h,g,d,tk,os⟩) ho
 refine wpAny_call_entry PySem.F.slot_dict_get hT PySem.F.entry_dict_get ?_ (PySem.F.args_dict_get_3 _ _ _)
 show wpAny _ _ (dictGet dx (.str name t) >>= _) _ _ _
 refine wpAny_bind ?_
 unfold dictGet
 refine wpAny_holding (wpAny_bind (wpAny_pyHash_str (wpAny_bind (dictFind_absent (s:=⟨h,g,d,tk+1,os⟩) ho hl hn (wpAny_pure ?_)))))
 show wpAny _ _ (Builtin.Dict.missed dx (.str name t) >>= _) _ _ _
 exact wpAny_bind (wpAny_missed_other (S.notMods hj) (wpAny_pure ⟨_,rfl,hq _ _ _ _ hg hp⟩))
theorem Cd.putNew {o i e:PySem.Expr} {p1:Pos} {dx:Addr} {j:Nat} {l:List (Str×Value)} {name:Str} {t:Tok} {v:Value} {P:Flow→Heap→Prop} (S:St B ms h) (hj:ms[j]?=some (dx,InsW l)) (hn:l.lookup name=none) (hz:l.length≤900) (he:Ev prog w A env h e (.val v)) (ho:Ev prog w A env h o (.val (.ref dx))) (hi:Ev prog w A env h i (.val (.str name t)))
  (hx:∀h2,St B (ms.set j (dx,InsW (putA name v l))) h2→Tr prog w A (execs rest env) h2 P X)
  (hs:swapsWith e (some (.Subscript o i p1)) pos.line env=pure false:=by rfl):Tr prog w A (execs (.Assign [.Subscript o i p1] e pos::rest) env) h P X:=by
 intro g d tk os Q E hg hq hE
 refine wpAny_execs_cons (wpAny_Assign_Subscript (he g d tk os _ E fun v' tk1 hv=>ho g d tk1 os _ E fun ov tk2 hov=>hi g d tk2 os _ E fun iv tk3 hiv=>?_) hs)
 have e1:v'=v:=hv
 have e2:ov = .ref dx:=hov
 have e3:iv = .str name t:=hiv
 subst e1 e2 e3
 obtain⟨ob,hob,hl⟩:=S.mem hj
 refine setItem_new (s:=⟨h,g,d,tk3,os⟩) hob hl hn hz fun h' tk' o' hs' ho' hl'=>?_
 exact hx h' (S.upd hj hs' ho' hl') g d _ os Q E hg hq hE
theorem Gm.field {x C:Addr} {ox od:Obj} {name:Str} {l:List (Str×Value)} {f:Value} (hX:K.In h) (hC:Cls K C) (hO:OwnF K C name) (I:InstAt h x ox C (some od)) (hl:InsW l od) (hv:l.lookup name=some f) (hh:handedIn f=true) (hnf:findIn K (.ref C) name=some none):Gm prog w h (.ref x) name f []:=by
 intro A g d tk os Q E pl hq
 have L0:=I.type (M:=model prog w)
 have L1:=looks_findIn (M:=model prog w) hX hC.get
 have L2:=looks_findIn (M:=model prog w) hX hC.hook
 have L3:=looks_findIn (M:=model prog w) hX hnf
 unfold getMethod
 refine wpAny_bind (wpAny_bind (L0.at (L1.at ?_)))
 dsimp only
 refine wpAny_ite_split (fun q=>by rw [PySem.F.canon_object_ga] at q;contradiction) fun _=>?_
 refine wpAny_bind (wpAny_bind (L0.at (L2.at ?_)))
 refine wpAny_ite_split (fun q=>absurd q (by decide)) fun _=>?_
 refine wpAny_bind (wpAny_bind (L0.at (L3.at ?_)))
 dsimp only
 exact wpAny_bind (Ga.ownW hX hC hO I hl hv hh A g d tk os _ E false fun tk'=>wpAny_pure (hq tk'))
end
end
section
set_option tactic.hygienic false
open PySem PySem.W PyProof.Rows
variable [GenI]
noncomputable def sGet:Stmt:=clsSt 33 2
noncomputable def adjFn (d:Bool):Addr:=if d then 810 else 599
noncomputable def adjSt (d:Bool):Stmt:=if d then clsSt 37 1 else clsSt 35 7
noncomputable def adjQ (d:Bool):Str:=if d then "DiGraph.adj" else "Graph.adj"
noncomputable abbrev nmGet:List Str:=["self","instance","owner","cache","val"]
theorem okGet {L:Addr} {cd:Value}:EnvOk (envF sGet "cached_property.__get__" L 562 cd) L nmGet:= .of (by decide +kernel)
theorem okAdj {d:Bool} {L:Addr} {cd:Value}:EnvOk (envF (adjSt d) (adjQ d) L (adjFn d) cd) L ["self"]:=by
 cases d <;> exact .of (by decide +kernel)
theorem envGet_eq {L:Addr} {cd:Value}:envC sGet "cached_property.__get__" L 562 cd=envF sGet "cached_property.__get__" L 562 cd:=by
 have:cellsFrom (L+1) (fnScope sGet).names [] = []:=by with_unfolding_all rfl
 unfold envC envF envOf
 rw [this]
structure AdjF (K:Frag) (B:PM):Prop where
 cpC:Cls K 572
 cpOwn:∀x∈(["attrname","func"]:List Str),OwnF K 572 x
 cpFunc:findIn K (.ref 572) "func" =some none
 getF:∃T oT v0 nw,FnAt B 562 sGet "cached_property.__get__" (.ref T) .none∧B T=some oT∧oT.data = .seq #[v0] nw
 nf:∃nf,GName B "_NOT_FOUND" (.ref nf)
 cp:∀d,∃cp dcp ocp od l t,findIn K (.ref (clsOf d)) "adj" =some (some (.ref cp))∧specialIn K (.ref cp) "__get__" =some (some (.ref 562))∧takesIn K (.ref cp)=some false∧hasDictIn K (clsOf d)=true∧
  B cp=some ocp∧PlainO 572 dcp (fun _=>True) ocp∧B dcp=some od∧InsW l od∧getA l "func" =some (.ref (adjFn d))∧getA l "attrname" =some (.str "adj" t)
 dict:∀d,∃p,DictF K (clsOf d) p
 thr:NoThr B
 fAdj:∀d,FnAt B (adjFn d) (adjSt d) (adjQ d) .none .none
 gView:GName B "AdjacencyView" (.ref 291)
 view:ViewF K B
inductive GetP (B:PM) (dn ad j:Addr) (ms:List (Addr×OP)) (l:List (Str×Value)) (v:Value) (h2:Heap):Prop
 | mk (x:Addr) (B':PM) (e:v = .ref x) (hle:B.le B') (vb:ViewB B' x 291 ad) (S:St B' (ms.set j (dn,InsW (putA "adj" (.ref x) l))) h2)
theorem AdjF.le {K:Frag} {B B':PM} (F:AdjF K B) (h:B.le B'):AdjF K B':=by
 obtain⟨a1,a2,a3,⟨T,oT,v0,nw,b1,b2,b3⟩,⟨nf,b4⟩,c,d,e,f,g,v⟩:=F
 refine⟨a1,a2,a3,⟨T,oT,v0,nw,b1.le h,h _ _ b2,b3⟩,⟨nf,b4.le h⟩,fun x=>?_,d,e.le h,fun x=>(f x).le h,g.le h,v.le h⟩
 obtain⟨cp,dcp,ocp,od,l,t,e1,e2,e3,e4,e5,e6,e7,e8⟩:=c x
 exact⟨cp,dcp,ocp,od,l,t,e1,e2,e3,e4,h _ _ e5,e6,h _ _ e7,e8⟩
section
variable {prog:Program} {w:World} {A:Around} {env:Env} {h:Heap} {X:Value→Heap→Prop} {B:PM} {ms:List (Addr×OP)} {L:Addr} {nms:List Str} {avs:List AV} {pos:Pos} {K:Frag}
noncomputable def AdjAt (dir:Bool) (l:List (Str×Value)) (ad:Addr):Prop:=getA l "_adj" =some (.ref ad)∧(dir=true→getA l "_succ" =some (.ref ad))
theorem adj_ok {dir:Bool} {net dn ad j:Addr} {ox:Obj} {l:List (Str×Value)} (R:Room A 8 36) (hK:InK K B) (F:AdjF K B) (FG:GraphF K B) (S:St B ms h) (hox:B net=some ox) (hpl:PlainO (clsOf dir) dn (fun _=>True) ox) (hj:ms[j]?=some (dn,InsW l)) (hl:AdjAt dir l ad):
  Tr prog w A (call (.ref (adjFn dir)) [.ref net]) h (ViewP B 291 ad ms) X:=by
 have hloc:∀x∈([("self",Value.ref net)]:List (Str×Value)),(fnScope (adjSt dir)).names.lookup x.1=some .local:=fun x hx=>by
  rw [List.mem_singleton.mp hx];cases dir <;> rfl
 have hb:∀x s',s'.heap=h→BindsTo s' (fdOf (adjSt dir) (adjQ dir) .none .none x) ⟨[.ref net],[]⟩ [("self",.ref net)]:=fun x s' _=>by
  cases dir <;> exact .of_eq rfl
 refine Tc.tr (Tc.callFn (d:=7) (u:=33) R (F.fAdj dir) F.view.lim S hb ["self"] [.val (.ref net)] (.cons rfl .nil) hloc (fun L h1 cd A' R' S1=>?_) (by cases dir <;> decide +kernel) (by cases dir <;> rfl) (by cases dir <;> rfl) (by cases dir <;> rfl))
 obtain⟨od,hod,hil⟩:=S1.mem (i:=j+1) (by rw [List.getElem?_cons_succ];exact hj)
 obtain⟨c1,c2,c3,_⟩:=hpl
 have I:=instAt (S1.keep _ _ hox) c1 c2 c3 hod
 have tail:∀{e:PySem.Expr} {np cp pp:Pos},Ev prog w A' (envF (adjSt dir) (adjQ dir) L (adjFn dir) cd) h1 e (.val (.ref ad))→StarE [e] (envF (adjSt dir) (adjQ dir) L (adjFn dir) cd)→(envF (adjSt dir) (adjQ dir) L (adjFn dir) cd).kindOf "AdjacencyView" =some .globalImplicit→
   Tr prog w A' (execs [.Return (some (.Call (.Name "AdjacencyView" np) [e] [] cp)) pp] (envF (adjSt dir) (adjQ dir) L (adjFn dir) cd)) h1 (fun f=>ViewP B 291 ad ms (match f with | .ret v=>v | _=>.none)) noX:=fun {e np cp pp} he hn hk=>by
  refine Cd.ret (.callName (.g okAdj S1 F.gView hk) (.evE he fun v hv=>.evNil ⟨.inK (hK.in S1) (F.view.cls true).keep,?_⟩) hn)
  have hv':v = .ref ad:=hv
  subst hv'
  refine(view_ok (b:=true) (R'.le (by decide) (by decide)) hK F.view S1).post fun v h2 zq0=>?_
  obtain⟨x,B',e1,hle,vb,S2⟩:=zq0
  exact⟨x,B',e1,hle,vb,S2.drop0⟩
 cases dir with
 | false=>exact tail (.attr (.name okAdj S1 0 rfl rfl) (.ownW (hK.in S1) (FG.cls false) (FG.own false _ (by simp)) I hil hl.1 rfl)) rfl rfl
 | true=>exact tail (.attr (.name okAdj S1 0 rfl rfl) (.ownW (hK.in S1) (FG.cls true) (FG.own true _ (by simp)) I hil (hl.2 rfl) rfl)) rfl rfl
theorem Ec.isRefSelf {x:Addr}:Ec prog w A h .Is (.val (.ref x)) (.val (.ref x)) true:=fun _ _ _ _ _ _ va vb ha hb hq=>by
 have e1:va = .ref x:=ha
 have e2:vb = .ref x:=hb
 subst e1 e2
 exact wpAny_is_ref_self (hq _)
theorem get_ok {dir:Bool} {net dn ad cp dcp j:Addr} {ox ocp odc:Obj} {l lc:List (Str×Value)} {t:Tok} (R:Room A 10 45) (hK:InK K B) (F:AdjF K B) (FG:GraphF K B) (S:St B ms h) (hox:B net=some ox) (hpl:PlainO (clsOf dir) dn (fun _=>True) ox) (hj:ms[j]?=some (dn,InsW l)) (hl:AdjAt dir l ad)
  (hno:getA l "adj" =none) (hlen:l.length≤900) (hcp:B cp=some ocp) (hpc:PlainO 572 dcp (fun _=>True) ocp) (hdc:B dcp=some odc) (hlc:InsW lc odc) (hf:getA lc "func" =some (.ref (adjFn dir))) (hat:getA lc "attrname" =some (.str "adj" t)):
  TcS prog w A (.call (.ref 562) ⟨[.ref cp,.ref net,.ref (clsOf dir)],[]⟩) h (GetP B dn ad j ms l) noX:=by
 obtain⟨T,oT,v0,nw,fG,hT,hTd⟩:=F.getF
 obtain⟨nf,gnf⟩:=F.nf
 obtain⟨p,D⟩:=F.dict dir
 refine TcS.callFnCX (d:=9) (u:=42) (XB:=fun _ _=>noX) R fG F.view.lim S (binds:=[("self",.ref cp),("instance",.ref net),("owner",.ref (clsOf dir))]) (fun x s' hs'=>?_)
  nmGet [.val (.ref cp),.val (.ref net),.any,.any,.any] [] (fun L x hx=>?_) (.cons rfl (.cons rfl (.cons trivial (.cons trivial (.cons trivial .nil))))) (fun L c hc=>absurd hc List.not_mem_nil) (fun c hc=>absurd hc List.not_mem_nil) (by simp) ?_ (fun _ _ _ _ z=>z.elim)
 ·exact PySem.BindsTo.of_defaults rfl (by rw [hs'];exact S.keep _ _ hT) hTd rfl rfl
 ·have:x.1∈(["self","instance","owner"]:List Str):=List.mem_map_of_mem (f:=(·.1)) hx
  exact .inl ((by decide +kernel:∀y∈(["self","instance","owner"]:List Str),(fnScope sGet).names.lookup y=some .local) _ this)
 ·intro L h1 cd hcd R' S1
  rw [envGet_eq] at R' ⊢
  have O:EnvOk (envF sGet "cached_property.__get__" L 562 cd) L nmGet:=okGet
  have S1:St B ((L,FrameO nmGet [.val (.ref cp),.val (.ref net),.any,.any,.any])::ms) h1:=S1
  have Icp:∀{h},St B ((L,FrameO nmGet [.val (.ref cp),.val (.ref net),.any,.any,.any])::ms) h→InstAt h cp ocp 572 (some odc):=fun S=>instAt (S.keep _ _ hcp) hpc.1 hpc.2.1 hpc.2.2.1 (S.keep _ _ hdc)
  refine CdS.ifF (.cmp (.name O S1 1 rfl rfl) .cNone (.isNone)) ?_
  refine CdS.ifF (.cmp (.attr (.name O S1 0 rfl rfl) (.ownW (hK.in S1) F.cpC (F.cpOwn _ (.head _)) (Icp S1) hlc hat rfl)) .cNone (.isNone)) ?_
  refine CdS.tryNext ?_
  refine CdS.assign O 3 rfl (TrS.dictAttr (j:=j+1) (.name O S1 1 rfl rfl) hK (FG.cls dir) D F.thr S1 hox hpl (by rw [List.getElem?_cons_succ];exact hj) fun h2 S2=>⟨_,_,_,.val (.ref dn),S2,rfl,fun h3 S3=>Cd.nil ⟨rfl,?_⟩⟩)
  have S3:St B ((L,FrameO nmGet [.val (.ref cp),.val (.ref net),.any,.val (.ref dn),.any])::ms) h3:=S3
  obtain⟨odn,hodn,hidn⟩:=S3.mem (i:=j+1) (by rw [List.getElem?_cons_succ];exact hj)
  refine Cd.assign O 4 rfl (.callMeth (.name O S3 3 rfl rfl) (.builtin (fun g d tk os=>hidn.typeIs (s:=⟨h3,g,d,tk,os⟩) hodn) PySem.F.plainAttrs_dict PySem.F.slot_dict_get PySem.F.type_dict_get fun a e=>⟨odn,by obtain rfl:=Value.ref.inj e;exact hodn,hidn.noDict⟩)
   (.evE (.attr (.name O S3 0 rfl rfl) (.ownW (hK.in S3) F.cpC (F.cpOwn _ (.head _)) (instAt (S3.keep _ _ hcp) hpc.1 hpc.2.1 hpc.2.2.1 (S3.keep _ _ hdc)) hlc hat rfl)) fun v1 hv1=>.evE (.g O S3 gnf) fun v2 hv2=>.evNil ⟨.builtin,?_⟩))
  have e1:v1 = .str "adj" t:=hv1
  have e2:v2 = .ref nf:=hv2
  subst e1 e2
  refine Tr.getMiss (j:=j+1) S3 (by rw [List.getElem?_cons_succ];exact hj) hno ⟨_,_,_,.val (.ref nf),S3,rfl,fun h4 S4=>?_⟩
  have S4:St B ((L,FrameO nmGet [.val (.ref cp),.val (.ref net),.any,.val (.ref dn),.val (.ref nf)])::ms) h4:=S4
  refine Cd.ifT (.cmp (.name O S4 4 rfl rfl) (.g O S4 gnf) .isRefSelf) ?_
  obtain⟨oc,odf,sl,fx,eF,_⟩:=F.fAdj dir
  refine Cd.assign O 4 rfl (.callMeth (.name O S4 0 rfl rfl) (.field (hK.in S4) F.cpC (F.cpOwn _ (.tail _ (.head _))) (instAt (S4.keep _ _ hcp) hpc.1 hpc.2.1 hpc.2.2.1 (S4.keep _ _ hdc)) hlc hf rfl F.cpFunc)
   (.evE (.name O S4 1 rfl rfl) fun v1 hv1=>.evNil ⟨.fn (S4.keep _ _ eF) rfl,?_⟩))
  have e1:v1 = .ref net:=hv1
  subst e1
  refine(adj_ok (j:=j+1) (R'.le (by decide) (by decide)) hK F FG S4 hox hpl (by rw [List.getElem?_cons_succ];exact hj) hl).post fun v h5 ⟨x,B',e1,hle,vb,S5⟩=>⟨B',_,_,.val (.ref x),S5,e1,fun h6 S6=>?_⟩
  have S6:St B' ((L,FrameO nmGet [.val (.ref cp),.val (.ref net),.any,.val (.ref dn),.val (.ref x)])::ms) h6:=S6
  have F':=F.le hle
  refine Cd.tryNext (Cd.putNew (j:=j+1) S6 (by rw [List.getElem?_cons_succ];exact hj) hno hlen (.name O S6 4 rfl rfl) (.name O S6 3 rfl rfl)
   (.attr (.name O S6 0 rfl rfl) (.ownW ((hK.le hle).in S6) F.cpC (F.cpOwn _ (.head _)) (instAt (S6.keep _ _ (hle _ _ hcp)) hpc.1 hpc.2.1 hpc.2.2.1 (S6.keep _ _ (hle _ _ hdc))) hlc hat rfl)) fun h7 S7=>Cd.nil ⟨rfl,?_⟩)
  have S7:St B' ((L,FrameO nmGet [.val (.ref cp),.val (.ref net),.any,.val (.ref dn),.val (.ref x)])::ms.set j (dn,InsW (putA "adj" (.ref x) l))) h7:=S7
  exact Cd.retE (.name O S7 4 rfl rfl) fun v hv=>⟨x,B',hv,hle,vb,S7.drop0⟩
end
end
section
set_option tactic.hygienic false
open PySem PySem.W PyProof.Rows
variable [GenI]
noncomputable def sAGet:Stmt:=clsSt 22 4
noncomputable def sJGet:Stmt:=clsSt 23 1
noncomputable def sGGet:Stmt:=clsSt 35 11
theorem okAGet {L:Addr} {cd:Value}:EnvOk (envF sAGet "AtlasView.__getitem__" L 251 cd) L ["self","key"]:= .of (by decide +kernel)
theorem okJGet {L:Addr} {cd:Value}:EnvOk (envF sJGet "AdjacencyView.__getitem__" L 287 cd) L ["self","name"]:= .of (by decide +kernel)
theorem okGGet {L:Addr} {cd:Value}:EnvOk (envF sGGet "Graph.__getitem__" L 630 cd) L ["self","n"]:= .of (by decide +kernel)
structure ItemF (K:Frag) (B:PM):Prop where
 adj:AdjF K B
 gr:GraphF K B
 gA:GName B "AtlasView" (.ref 269)
 fA:FnAt B 251 sAGet "AtlasView.__getitem__" .none .none
 fJ:FnAt B 287 sJGet "AdjacencyView.__getitem__" .none .none
 fG:FnAt B 630 sGGet "Graph.__getitem__" .none .none
 mA:MethF K 269 "__getitem__" 251∧fnIn K 251=true
 mJ:MethF K 291 "__getitem__" 287∧fnIn K 287=true
 mG:∀d,MethF K (clsOf d) "__getitem__" 630
 mG':fnIn K 630=true
inductive DaP (prog:Program) (w:World) (B:PM) (oc:Option Nat) (ms:List (Addr×OP)) (y:Value) (h2:Heap):Prop
 | mk (da:Addr) (od:Obj) (e:y = .ref da) (hB:B da=some od) (hD:DataO prog w oc od) (hm:(da == sysModules)=false) (S:St B ms h2)
inductive GiP (prog:Program) (w:World) (B:PM) (n:Nat) (e:Nat→Option (Option Nat)) (ms:List (Addr×OP)) (y:Value) (h2:Heap):Prop
 | mk (z:Addr) (B':PM) (ra:Addr) (kvs:List (Int×Value)) (ey:y = .ref z) (hle:B.le B') (vz:ViewB B' z 269 ra) (hr:RowB prog w B' ra n e kvs) (S:St B' ms h2)
inductive GfP (prog:Program) (w:World) (B:PM) (dn ad j n:Nat) (e:Nat→Option (Option Nat)) (ms:List (Addr×OP)) (l:List (Str×Value)) (y:Value) (h2:Heap):Prop
 | mk (z vw:Addr) (B':PM) (ra:Addr) (kvs:List (Int×Value)) (ey:y = .ref z) (hle:B.le B') (vv:ViewB B' vw 291 ad) (vz:ViewB B' z 269 ra) (hr:RowB prog w B' ra n e kvs) (S:St B' (ms.set j (dn,InsW (putA "adj" (.ref vw) l))) h2)
theorem ItemF.le {K:Frag} {B B':PM} (F:ItemF K B) (h:B.le B'):ItemF K B':=⟨F.adj.le h,F.gr.le h,F.gA.le h,F.fA.le h,F.fJ.le h,F.fG.le h,F.mA,F.mJ,F.mG,F.mG'⟩
section
variable {prog:Program} {w:World} {A:Around} {env:Env} {h:Heap} {X:Value→Heap→Prop} {B:PM} {ms:List (Addr×OP)} {L:Addr} {nms:List Str} {avs:List AV} {pos:Pos} {K:Frag}
theorem RowB.find {a n:Nat} {e:Nat→Option (Option Nat)} {kvs:List (Int×Value)} {k:Nat} {oc:Option Nat} (r:RowB prog w B a n e kvs) (hk:e k=some oc):∃da od,valueAt kvs (k:Int)=some (.ref da)∧B da=some od∧DataO prog w oc od∧(da == sysModules)=false:=by
 obtain⟨p,hp,hpk⟩:=r.full k (by rw [hk];rfl)
 unfold valueAt
 cases q:kvs.find? (fun kv=>kv.1=(k:Int))with
 | none=>
  have:=List.find?_eq_none.mp q p hp
  simp [hpk] at this
 | some p'=>
  have h1:=List.mem_of_find?_eq_some q
  have h2:=List.find?_some q
  have h2':p'.1=(k:Int):=by simpa using h2
  obtain⟨k',hk',e1,oc',da,od,e2,e3,e4,e5,e6⟩:=r.sound p' h1
  have:k'=k:=by rw [h2'] at e1;exact(Int.ofNat.inj e1).symm
  subst this
  rw [hk] at e2
  obtain rfl:=Option.some.inj e2
  exact⟨da,od,by rw [←e3];rfl,e4,e5,e6⟩
theorem ViewB.inst {x C d:Addr} (v:ViewB B x C d) (S:St B ms h):∃ox od,InstAt h x ox C (some od)∧(ox.slots[0]?).join=some (.ref d):=by
 obtain⟨ox,dx,od,e1,⟨c1,c2,c3,c4⟩,e3⟩:=v
 exact⟨ox,od,instAt (S.keep _ _ e1) c1 c2 c3 (S.keep _ _ e3),by rw [c4];rfl⟩
theorem agi_ok {x ra n v:Nat} {tv:Tok} {e:Nat→Option (Option Nat)} {kvs:List (Int×Value)} {oc:Option Nat} (R:Room A 2 10) (hK:InK K B) (F:ItemF K B) (S:St B ms h) (V:ViewB B x 269 ra) (r:RowB prog w B ra n e kvs) (hv:e v=some oc):
  Tr prog w A (call (.ref 251) [.ref x,.int v tv]) h (DaP prog w B oc ms) X:=by
 refine Tc.tr (Tc.callFn (d:=1) (u:=7) R F.fA F.gr.lim S (binds:=[("self",.ref x),("key",.int v tv)]) (fun x s' _=>.of_eq rfl) ["self","key"] [.val (.ref x),.int v] (.cons rfl (.cons ⟨tv,rfl⟩ .nil)) (fun y hy=>?_) fun L h1 cd A' R' S1=>?_)
 ·rcases List.mem_cons.mp hy with rfl | hy
  ·rfl
  ·rw [List.mem_singleton.mp hy];rfl
 obtain⟨ox,od,I,hs⟩:=V.inst S1
 obtain⟨da,odd,e1,e2,e3,e4⟩:=r.find hv
 obtain⟨o,ho,hd⟩:=r.at_
 have hm:=(dictO_iff.mpr ⟨o,S1.keep _ _ ho,hd⟩).mapOf
 refine Cd.retE (av:= .val (.ref da)) (.sub_ (a:= .val (.ref ra)) (b:= .int v) (.attr (.name okAGet S1 0 rfl rfl) (.slot (hK.in S1) (F.adj.view.cls false) (F.adj.view.slot false) I hs rfl)) (.name okAGet S1 1 rfl rfl) fun va vb ha hb=>?_) fun y hy=>⟨da,odd,hy,e2,e3,e4,S1.drop0⟩
 have ha':va = .ref ra:=ha
 obtain⟨t,rfl⟩:=hb
 subst ha'
 exact⟨"dict","dict.__getitem__",tl_dict,fun g' d tk os=>Heap.MapOf.typeIs (s:=⟨h1,g',d,tk,os⟩) hm,fun _ _ _ _ _ _ hq=>wpAny_getItem_of (intKind_is _ _ v t) hm e1 (hq _ _ rfl),by with_unfolding_all rfl⟩
theorem jgi_ok {x ad n u:Nat} {tu:Tok} {E:Nat→Nat→Option (Option Nat)} (R:Room A 8 36) (hK:InK K B) (F:ItemF K B) (S:St B ms h) (V:ViewB B x 291 ad) (T:TabB prog w B ad n E) (hu:u<n):
  Tr prog w A (call (.ref 287) [.ref x,.int u tu]) h (GiP prog w B n (E u) ms) X:=by
 refine Tc.tr (Tc.callFn (d:=7) (u:=33) R F.fJ F.gr.lim S (binds:=[("self",.ref x),("name",.int u tu)]) (fun x s' _=>.of_eq rfl) ["self","name"] [.val (.ref x),.int u] (.cons rfl (.cons ⟨tu,rfl⟩ .nil)) (fun y hy=>?_) fun L h1 cd A' R' S1=>?_)
 ·rcases List.mem_cons.mp hy with rfl | hy
  ·rfl
  ·rw [List.mem_singleton.mp hy];rfl
 obtain⟨ox,od,I,hs⟩:=V.inst S1
 obtain⟨r,o,ho,hm,hr⟩:=T.rows
 obtain⟨_,kvs,hrow⟩:=hr u hu
 refine Cd.ret (.callName (.g okJGet S1 F.gA) (.evE (.subM (k:=u) (.attr (.name okJGet S1 0 rfl rfl) (.slot (hK.in S1) (F.adj.view.cls true) (F.adj.view.slot true) I hs rfl)) (.name okJGet S1 1 rfl rfl) (S1.keep _ _ ho) hm (by rw [if_pos hu])) fun v hv=>.evNil ⟨.inK (hK.in S1) (F.adj.view.cls false).keep,?_⟩))
 have hv':v = .ref (r u):=hv
 subst hv'
 refine(view_ok (b:=false) (R'.le (by decide) (by decide)) hK F.adj.view S1).post fun v h2 zq0=>?_
 obtain⟨z,B',e1,hle,vb,S2⟩:=zq0
 exact⟨z,B',r u,kvs,e1,hle,vb,hrow.le hle,S2.drop0⟩
theorem findObj_ndOwn {C cp:Addr} {od:Obj} {name:Str} {g v:Value} (hh:hasDictIn K C=true) (ha:findIn K (.ref C) name=some (some (.ref cp))) (hg:specialIn K (.ref cp) "__get__" =some (some g)) (ht:takesIn K (.ref cp)=some false) (hl:lookIn name od=some (some v)):
  findObj K C (some od) name=some (.value v):=by
 obtain⟨cd,hc',hd⟩:=any_some hh
 unfold findObj
 have ho:PySem.W.ownOf cd (some od) name=some (some v):=by unfold PySem.W.ownOf;rw [if_pos hd];exact hl
 rw [hc',Option.bind_some,ha,Option.bind_some]
 show(specialIn K (.ref cp) "__get__").bind _=_
 rw [hg,Option.bind_some]
 show(takesIn K (.ref cp)).bind _=_
 rw [ht,Option.bind_some,ho,Option.bind_some]
theorem putA_look {name:Str} {v:Value} (l:List (Str×Value)):(putA name v l).lookup name=some v:=by
 induction l with
 | nil=>show(match name == name with | true=>some v | false=>none)=some v;rw [beq_self_eq_true]
 | cons p r ih=>
  obtain⟨m,x⟩:=p
  rw [putA_cons]
  by_cases q:m=name
  ·rw [if_pos q,q,List.lookup_cons,beq_self_eq_true]
  ·rw [if_neg q,List.lookup_cons,beq_eq_false_iff_ne.mpr (Ne.symm q)];exact ih
theorem gi_first {dir:Bool} {net dn ad n u j:Nat} {tu:Tok} {E:Nat→Nat→Option (Option Nat)} {ox:Obj} {l:List (Str×Value)} (R:Room A 12 60) (hK:InK K B) (F:ItemF K B) (S:St B ms h) (hox:B net=some ox) (hpl:PlainO (clsOf dir) dn (fun _=>True) ox) (hj:ms[j]?=some (dn,InsW l)) (hl:AdjAt dir l ad)
  (hno:getA l "adj" =none) (hlen:l.length≤900) (T:TabB prog w B ad n E) (hu:u<n):
  TcS prog w A (.call (.ref 630) ⟨[.ref net,.int u tu],[]⟩) h (GfP prog w B dn ad j n (E u) ms l) noX:=by
 have envE:∀L cd,envC sGGet "Graph.__getitem__" L 630 cd=envF sGGet "Graph.__getitem__" L 630 cd:=fun L cd=>by
  have:cellsFrom (L+1) (fnScope sGGet).names [] = []:=by with_unfolding_all rfl
  unfold envC envF envOf
  rw [this]
 refine TcS.callFnCX (d:=11) (u:=57) (XB:=fun _ _=>noX) R F.fG F.gr.lim S (binds:=[("self",.ref net),("n",.int u tu)]) (fun x s' _=>.of_eq rfl)
  ["self","n"] [.val (.ref net),.int u] [] (fun L x hx=>?_) (.cons rfl (.cons ⟨tu,rfl⟩ .nil)) (fun L c hc=>absurd hc List.not_mem_nil) (fun c hc=>absurd hc List.not_mem_nil) (by simp) ?_ (fun _ _ _ _ z=>z.elim)
 ·have:x.1∈(["self","n"]:List Str):=List.mem_map_of_mem (f:=(·.1)) hx
  exact .inl ((by decide +kernel:∀y∈(["self","n"]:List Str),(fnScope sGGet).names.lookup y=some .local) _ this)
 ·intro L h1 cd hcd R' S1
  rw [envE] at R' ⊢
  have S1:St B ((L,FrameO ["self","n"] [.val (.ref net),.int u])::ms) h1:=S1
  have O:EnvOk (envF sGGet "Graph.__getitem__" L 630 cd) L ["self","n"]:=okGGet
  obtain⟨cp,dcp,ocp,odc,lc,t,a1,a2,a3,a4,a5,a6,a7,a8,a9,a10⟩:=F.adj.cp dir
  obtain⟨od,hod,hil⟩:=S1.mem (i:=j+1) (by rw [List.getElem?_cons_succ];exact hj)
  have I:=instAt (S1.keep _ _ hox) hpl.1 hpl.2.1 hpl.2.2.1 hod
  have hX:=hK.in S1
  refine CdS.ret (TrS.subOwn (K:=K) (k:= .int u) (TrS.attrBind (.name O S1 0 rfl rfl) hX (F.gr.cls dir) I (PySem.W.findObj_fn a4 a1 a2 a3 (by decide) (by rw [hil.look];exact congrArg some hno)) ?_))
  refine((get_ok (j:=j+1) (R'.le (by decide) (by decide)).in1 hK F.adj F.gr S1 hox hpl (by rw [List.getElem?_cons_succ];exact hj) hl hno hlen a5 a6 a7 a8 a9 a10).tr).post fun v h2 ⟨vw,B1,e1,hle,vb,S2⟩=>⟨by rw [e1];rfl,?_⟩
  subst e1
  have S2:St B1 ((L,FrameO ["self","n"] [.val (.ref net),.int u])::ms.set j (dn,InsW (putA "adj" (.ref vw) l))) h2:=S2
  obtain⟨ovw,odv,Iv,_⟩:=vb.inst S2
  refine⟨vw,291,287,ovw,some odv,rfl,(hK.le hle).in S2,Iv,F.mJ.1,F.mJ.2,.name O S2 1 rfl rfl,fun vi hvi=>?_⟩
  obtain⟨ti,rfl⟩:=hvi
  refine .of ((jgi_ok (R'.le (d':=8) (u':=37) (by decide) (by decide)).in1 (hK.le hle) (F.le hle) S2 vb (T.le hle) hu).post fun y h3 zq0=>?_)
  obtain⟨z,B',ra,kvs,e1,hle2,vz,hr,S3⟩:=zq0
  have vb':=vb.le hle2
  exact⟨z,vw,B',ra,kvs,e1,PM.le_trans hle hle2,vb',vz,hr,S3.drop0⟩
theorem gi_next {dir:Bool} {net dn ad n u j vw:Nat} {tu:Tok} {E:Nat→Nat→Option (Option Nat)} {ox:Obj} {l:List (Str×Value)} (R:Room A 12 60) (hK:InK K B) (F:ItemF K B) (S:St B ms h) (hox:B net=some ox) (hpl:PlainO (clsOf dir) dn (fun _=>True) ox) (hj:ms[j]?=some (dn,InsW l))
  (hvw:getA l "adj" =some (.ref vw)) (V:ViewB B vw 291 ad) (T:TabB prog w B ad n E) (hu:u<n):
  Tc prog w A (.call (.ref 630) ⟨[.ref net,.int u tu],[]⟩) h (GiP prog w B n (E u) ms) X:=by
 refine Tc.callFn (d:=11) (u:=57) R F.fG F.gr.lim S (binds:=[("self",.ref net),("n",.int u tu)]) (fun x s' _=>.of_eq rfl) ["self","n"] [.val (.ref net),.int u] (.cons rfl (.cons ⟨tu,rfl⟩ .nil)) (fun y hy=>?_) fun L h1 cd A' R' S1=>?_
 ·rcases List.mem_cons.mp hy with rfl | hy
  ·rfl
  ·rw [List.mem_singleton.mp hy];rfl
 have O:EnvOk (envF sGGet "Graph.__getitem__" L 630 cd) L ["self","n"]:=okGGet
 obtain⟨cp,dcp,ocp,odc,lc,t,a1,a2,a3,a4,a5,a6,a7,a8,a9,a10⟩:=F.adj.cp dir
 obtain⟨od,hod,hil⟩:=S1.mem (i:=j+1) (by rw [List.getElem?_cons_succ];exact hj)
 have I:=instAt (S1.keep _ _ hox) hpl.1 hpl.2.1 hpl.2.2.1 hod
 have hX:=hK.in S1
 have ga:Ga prog w h1 (.ref net) "adj" (.ref vw):=fun A g d tk os Q E b hq=>
  get_value (s:=⟨h1,g,d,tk,os⟩) hX I (F.gr.cls dir).get (findObj_ndOwn a4 a1 a2 a3 (by rw [hil.look];exact congrArg some hvw)) rfl (hq _)
 obtain⟨ovw,odv,Iv,_⟩:=V.inst S1
 refine Cd.ret (Tr.subOwn (K:=K) (k:= .int u) (.ofEv (.attr (.name O S1 0 rfl rfl) ga) fun v hv=>⟨vw,291,287,ovw,some odv,hv,hX,Iv,F.mJ.1,F.mJ.2,.name O S1 1 rfl rfl,fun vi hvi=>?_⟩))
 obtain⟨ti,rfl⟩:=hvi
 refine(jgi_ok (R'.le (d':=8) (u':=37) (by decide) (by decide)).in1 hK F S1 V T hu).post fun y h3 zq0=>?_
 obtain⟨z,B',ra,kvs,e1,hle2,vz,hr,S3⟩:=zq0
 exact⟨z,B',ra,kvs,e1,hle2,vz,hr,S3.drop0⟩
end
end
section
set_option tactic.hygienic false
open PySem PySem.W PyProof.Rows
variable [GenI]
section
variable {M:Model}
noncomputable def SegS (M:Model) (A:Around) (R:GenEnd) (Y:Protocol):Nat→Shared→Code→Sem Fin→Shared→Prop
 | 0=>fun s₀ c t s=>∀Γ p,Γ.code=c→Γ.Woken A→Clean Γ→∃e s',Runs M Γ p t [] s e s'∧SegEnd R Y 0 (fun _ _ _ _=>False) s₀ e s'
 | n+1=>fun s₀ c t s=>∀Γ p,Γ.code=c→Γ.Woken A→Clean Γ→∃e s',Runs M Γ p t [] s e s'∧
   SegEnd R Y (n+1) (fun c' t' fs' s''=>fs' = []∧calmC c'=true∧SegS M A R Y n s'' c' t' s'') s₀ e s'
noncomputable def SegS.next (M:Model) (A:Around) (R:GenEnd) (Y:Protocol):Nat→Code→Sem Fin→List Frame→Shared→Prop
 | 0=>fun _ _ _ _=>False
 | n+1=>fun c t fs s''=>fs = []∧calmC c=true∧SegS M A R Y n s'' c t s''
theorem segS_iff {A:Around} {R:GenEnd} {Y:Protocol} {n:Nat} {s₀ c t s}:
  SegS M A R Y n s₀ c t s ↔ ∀Γ p,Γ.code=c→Γ.Woken A→Clean Γ→∃e s',Runs M Γ p t [] s e s'∧SegEnd R Y n (SegS.next M A R Y n) s₀ e s':=by
 cases n <;> rfl
theorem Clean.over0 {Γ:Ctx} (h:Clean Γ):Clean (Γ.over []):=h
section
variable {A:Around} {R:GenEnd} {Y:Protocol} {n:Nat} {s₀:Shared} {c:Code} {s:Shared}
theorem segS_wrap {α:Type} {m:Sem α} {K:α→Sem Fin} {H:Value→Sem Fin} {gd lv}
  (h:wpS M (A.over c []) m (fun a s'=>SegS M A R Y n s₀ c (K a) s') (fun x s'=>SegS M A R Y n s₀ c (H x) s') s):SegS M A R Y n s₀ c (m.wrap K H gd lv) s:=by
 rw [segS_iff]
 rintro Γ p rfl hw hc
 exact runs_wrap_of_wp K H gd lv m (h (Γ.over []) p (hw.over []) hc.over0) (fun a p' s' k=>segS_iff.mp k Γ p' rfl hw hc) (fun x p' s' k=>segS_iff.mp k Γ p' rfl hw hc)
theorem segS_bind_wrap {α β:Type} {m:Sem α} {K:α→Sem β} {K':β→Sem Fin} {H':Value→Sem Fin} {gd lv}
  (h:wpS M (A.over c []) m (fun a s'=>SegS M A R Y n s₀ c ((K a).wrap K' H' gd lv) s') (fun x s'=>SegS M A R Y n s₀ c (H' x) s') s):SegS M A R Y n s₀ c ((m >>= K).wrap K' H' gd lv) s:=by
 rw [Sem.bind_eq_wrap',Sem.wrap_wrap];exact segS_wrap h
theorem segS_at {p':Pos} {k:Unit→Sem Fin} (h:SegS M A R Y n s₀ c (k ()) s):SegS M A R Y n s₀ c (.at p' k) s:=
 segS_wrap (m:=standAt p') (K:=k) (H:= .raise) (gd:=id) (lv:=id) (.of (wpAny_standAt h))
theorem segS_again {c':Code} (hq:c'.quiet=true) (hcl:calmC c'=true) (hc:SegS M A R Y n s₀ c' (M.den c') s):SegS M A R Y n s₀ c (.pure (.again c')) s:=by
 rw [segS_iff]
 rintro Γ p rfl hw hcc
 obtain⟨e,s',hr,he⟩:=segS_iff.mp hc (Γ.goto c') p rfl (hw.goto c') (hcc.goto hcl)
 exact⟨e,s',Runs.head (c₁:=c') (fun _ _ x=>.again hq x) hr,he⟩
theorem segS_end (r:Result) (h:R n s₀ r s):SegS M A R Y n s₀ c (leafOf r) s:=by
 rw [segS_iff]
 rintro Γ p rfl _ _
 exact⟨.ret r,s,Runs.leaf r,h⟩
theorem segS_yield {v g l} {k:Resume→Sem Fin} (hg:g=false) (hcl:calmC c=true)
  (h:Y n s₀ v s fun r s''=>SegS M A R Y n s'' c (k r) s''):SegS M A R Y (n+1) s₀ c (.yield v g l k) s:=by
 rintro Γ p rfl _ _
 refine⟨_,s,Runs.yield' [] rfl,And.intro (by simp [End.quiet,hg]) ?_⟩
 have e:(fun r s''=>([]:List Frame) = []∧calmC Γ.code=true∧SegS M A R Y n s'' Γ.code (k r) s'')=fun r s''=>SegS M A R Y n s'' Γ.code (k r) s'':=by
  funext r s'';simp [hcl]
 rw [e]
 exact h
end
noncomputable def GoesS (M:Model) (A:Around) (R:GenEnd) (Y:Protocol) (n:Nat) (gs:GenState) (r:Resume) (s:Shared):Prop:=
 match gs with
 | .fresh c=>r = .send .none∧calmC c=true∧SegS M A R Y n s c (M.den c) s
 | .suspended k _ c _ fs _=>fs = []∧calmC c=true∧SegS M A R Y n s c (k r) s
 | _=>False
theorem wpS.resume {A:Around} {R:GenEnd} {Y:Protocol} {n:Nat} {E:Value→Shared→Prop} {s:Shared} {g:Nat} {gs:GenState}
  {r:Resume} {l:List Value} {α:Type} {k:GenResult→Sem α} {Q:α→Shared→Prop} (hg:s.gens[g]?=some gs) (hgo:GoesS M A R Y n gs r (s.setGen g .running))
  (hR:∀x s₁,R n (s.setGen g .running) x s₁→wpAny M A (k (End.ret x).result) Q E (s₁.setGen g .finished))
  (hY:∀v s₁ gs',gs'.bare=true→Y (n - 1) (s.setGen g .running) v s₁ (fun r' s''=>match n with | 0=>False | m+1=>GoesS M A R Y m gs' r' s'')→wpAny M A (k (.yielded v)) Q E (s₁.setGen g gs')):
  wpS M A (.resume g r l k) Q E s:=by
 intro Γ p hi hcl
 rw [Sem.wp_resume]
 have hB:∀c,(Γ.wake c p).Woken A:=fun c=>hi.wake c p
 have fin:∀e₁ s₁,SegEnd R Y n (SegS.next M A R Y n) (s.setGen g .running) e₁ s₁→Sem.wp M Γ (k e₁.result) (fun a _ s'=>Q a s') (fun e _ s'=>E e s') p (s₁.setGen g e₁.genState):=by
  intro e₁ s₁ he
  cases e₁ with
  | ret x=>exact hR x s₁ he Γ p hi
  | susp v g₀ l₀ k₀ c₀ p₀ fs₀=>
   refine hY v s₁ _ (End.bare_of_quiet he.1) ?_ Γ p hi
   cases n with
   | zero=>exact he.2
   | succ m=>exact he.2
 have hqt:∀e₁ s₁,SegEnd R Y n (SegS.next M A R Y n) (s.setGen g .running) e₁ s₁→e₁.quiet=true:=by
  intro e₁ s₁ he
  cases e₁ with
  | ret x=>rfl
  | susp v g₀ l₀ k₀ c₀ p₀ fs₀=>exact he.1
 cases gs with
 | fresh c=>
  obtain⟨rfl,hc,hs⟩:=hgo
  obtain⟨e₁,s₁,hr,he⟩:=segS_iff.mp hs (Γ.wake c p) p rfl (hB c) (hcl.wake hc)
  exact⟨_,_,by unfold Wakes;rw [hg];exact⟨e₁,s₁,hr,hqt e₁ s₁ he,rfl,rfl⟩,fin e₁ s₁ he⟩
 | suspended k₀ l₀ c₀ p₀ fs₀ cl=>
  obtain⟨rfl,hc,hs⟩:=hgo
  obtain⟨e₁,s₁,hr,he⟩:=segS_iff.mp hs (Γ.wake c₀ p) p₀ rfl (hB c₀) (hcl.wake hc)
  exact⟨_,_,by unfold Wakes;rw [hg];exact⟨e₁,s₁,hr,hqt e₁ s₁ he,rfl,rfl⟩,fin e₁ s₁ he⟩
 | running=>exact hgo.elim
 | finished=>exact hgo.elim
end
section
variable {prog:Program} {w:World} {A:Around} {E:Value→Shared→Prop} {s:Shared}
theorem wpS.pyNextGen {a:Addr} {g n:Nat} {gs:GenState} {P:Nat→Shared→Shared→Prop} {Y:Protocol} {Q:Option Value→Shared→Prop} (hh:A.handled=none) (hl:s.heap.NoLimit) (hroom:A.depth<recursionLimit)
  (hg:s.heap.IsGen a g) (hgs:s.gens[g]?=some gs) (hgo:GoesS (model prog w) A.in1 (fun n s₀ r s₁=>r = .ok .next∧P n s₀ s₁) Y n gs (.send .none) (s.setGen g .running))
  (hY:∀v s₁ gs',gs'.bare=true→Y (n - 1) (s.setGen g .running) v s₁ (fun r' s''=>match n with
    | 0=>False
    | m+1=>GoesS (model prog w) A.in1 (fun n s₀ r s₁=>r = .ok .next∧P n s₀ s₁) Y m gs' r' s'')→Q (some v) (s₁.setGen g gs'))
  (hP:∀s₁,P n (s.setGen g .running) s₁→∀h',(∀b o,s₁.heap.get? b=some o→h'.get? b=some o)→Q none { s₁.setGen g .finished with heap:=h'}):wpS (model prog w) A (pyNext (.ref a)) Q E s:=by
 unfold pyNext
 refine .bind (.attempt ?_)
 have hT:s.TypeIs (.ref a) "generator" :=hg.typeIs
 unfold callSpecial?
 refine .bindA (wpAny_specialOf hT slot_gen_next.lookup ?_)
 simp only [slot_gen_next.bind]
 refine .holding (.bindA (wpAny_pure ?_))
 refine .bind ?_
 refine .call (.callBuiltin slot_gen_next.plain calm_b entry_gen_next (slot_gen_next.check _ _ _ _ _ _ _ _ hT (args_gen_next _) ?_))
 show wpS _ A.in1 (Builtin.Generator.genWake (.ref a) (.send .none)) _ _ s
 unfold Builtin.Generator.genWake
 refine .bindA (wpAny_holding (wpAny_genNumber hg (.bindA (wpAny_genState hgs ?_))))
 cases gs with
 | running=>exact hgo.elim
 | finished=>exact hgo.elim
 | _=>
  refine .bindA (wpAny_roomToWake hl hroom ?_)
  show wpS _ A.in1 (.resume g (.send .none) [] _) _ _ s
  refine wpS.resume hgs hgo (fun x s₁ hx=>?_) (fun v s₁ gs' hb hv=>?_)
  ·obtain⟨rfl,hp⟩:=hx
   show wpAny _ A.in1 (newExc (.type "StopIteration") [] >>= _) _ _ _
   refine wpAny_bind ?_
   simp only [newExc,newTuple]
   refine wpAny_bind (wpAny_newObj_type ?_ (by size_fits))
   refine wpAny_bind (m:=firstArgMember _ _) (wpAny_of_eq (a:=Value.none) (by first | rfl | (simp only [firstArgMember];rfl)) ?_)
   refine wpAny_newObj_type ?_ (by size_fits)
   refine wpAny_bind (wpAny_bind (wpAny_handled ?_))
   first | rw [show A.in1.handled=none from hh] | rw [hh]
   refine wpAny_throw ?_
   refine .bindA (wpAny_isInstance (T:= "StopIteration") (b:=true) ⟨_,Heap.get?_push_size _ rfl,rfl⟩ isSubtype_stop ?_)
   exact .of (wpAny_pure (hP s₁ hp _ fun b o hb=>Heap.get?_push_of_some _ (Heap.get?_push_of_some _ hb)))
  ·exact wpAny_pure (.of (wpAny_pure (.of (wpAny_pure (hY v s₁ gs' hb hv)))))
end
end
section
open PySem PySem.W PyProof.Rows
variable [GenI]
section
variable {M:Model} {A:Around} {E:Value→Shared→Prop} {s:Shared}
theorem wpS.tryCatch {α:Type} {m:Sem α} {k:Value→Sem α} {Q:α→Shared→Prop} (h:wpS M A m Q (fun e s'=>wpAny M A (k e) Q E s') s):wpS M A (MonadExcept.tryCatch m k) Q E s:=fun Γ p hi hc=>by
 rw [Sem.wp_tryCatch']
 exact Sem.wp_mono M Γ m (fun _ _ _ h'=>h') (fun e p' s' h'=>h' Γ p' hi) p s (h Γ p hi hc)
end
section
variable {prog:Program} {w:World} {A:Around} {E:Value→Shared→Prop}
noncomputable def accO (i:Int) (t:Tok) (c:Nat):Obj:={ cls:= .type "list",dict:=none,data:= .seq #[.int i t] c,slots:= #[]}
structure SumS (prog:Program) (w:World) (A:Around) (a S:Addr) (n:Nat) (val:Nat→Int) (T:Nat→OP→Shared→Prop) (Fin:Shared→Prop):Prop where
 upd:∀i q q' s h' tk o',T i q s→Heap.SameBut S s.heap h'→h'.get? S=some o'→q' o'→T i q' { s with heap:=h',toks:=tk}
 own:∀i q s,T i q s→∃o,s.heap.get? S=some o∧q o
 item:∀i q s (Q:Option Value→Shared→Prop) (E:Value→Shared→Prop),i<n→T i q s→(∀t s',T (i+1) q s'→Q (some (.int (val i) t)) s')→wpS (model prog w) A.in1 (pyNext (.ref a)) Q E s
 done:∀q s (Q:Option Value→Shared→Prop) (E:Value→Shared→Prop),T n q s→(∀s',Fin s'→Q none s')→wpS (model prog w) A.in1 (pyNext (.ref a)) Q E s
theorem sumLoopS {a S:Addr} {n:Nat} {val:Nat→Int} {T:Nat→OP→Shared→Prop} {Fin:Shared→Prop} {R:Result→Shared→Prop} (W:SumS prog w A a S n val T Fin) (hfit:∀j,j<n→InLong (val j)∧InLong (preSum val (j+1))):
  ∀(k i:Nat) (s:Shared) (tA:Tok) (c:Nat),n - i=k→i≤n→T i (fun o=>o=accO (preSum val i) tA c) s→
  (∀s' t',Fin s'→R (.ok (.ret (.int (preSum val n) t'))) s')→codeS (model prog w) A (.builtin "sum.loop" ⟨[.ref a,.ref S,rawInt 0,rawInt 0],[]⟩) R s:=by
 intro k
 induction k with
 | zero=>
  intro i s tA c hk hi hT hR
  have hin:i=n:=nt125 hk hi
  subst hin
  obtain⟨o,hS,rfl⟩:=W.own _ _ _ hT
  refine codeS.builtin PySem.F.entry_sum_loop ?_
  rw [Around.under_plainId PySem.F.plain_sum_loop _]
  show wpS _ A.in1 (seqItems? (.ref S) >>= _) _ _ s
  refine .bindA (wpAny_seqItems hS rfl ?_)
  show wpS _ A.in1 (MonadExcept.tryCatch (pyNext (.ref a)) _ >>= _) _ _ s
  refine .bind (.tryCatch (W.done _ s _ _ hT fun s' hf=>?_))
  exact .of (wpAny_pure (hR s' tA hf))
 | succ k ih=>
  intro i s tA c hk hi hT hR
  have hlt:i<n:=nt223 hk hi
  obtain⟨o,hS,rfl⟩:=W.own _ _ _ hT
  refine codeS.builtin PySem.F.entry_sum_loop ?_
  rw [Around.under_plainId PySem.F.plain_sum_loop _]
  show wpS _ A.in1 (seqItems? (.ref S) >>= _) _ _ s
  refine .bindA (wpAny_seqItems hS rfl ?_)
  show wpS _ A.in1 (MonadExcept.tryCatch (pyNext (.ref a)) _ >>= _) _ _ s
  refine .bind (.tryCatch (W.item i _ s _ _ hlt hT fun t s' hT'=>?_))
  obtain⟨o,hS',rfl⟩:=W.own _ _ _ hT'
  obtain⟨⟨f1,f2⟩,f3,f4⟩:=hfit i hlt
  have hc:((decide (-(2 ^ 63)≤val i) && decide (val i<2 ^ 63)) && (decide (-(2 ^ 63)≤preSum val i+val i) && decide (preSum val i+val i<2 ^ 63)))=true:=by
   simp only [preSum] at f3 f4
   simp only [Bool.and_eq_true,decide_eq_true_eq]
   exact⟨⟨f1,f2⟩,f3,f4⟩
  show wpS _ A.in1 (if(_:Bool)=true then(mkInt (preSum val i+val i) >>= _)else _) _ _ _
  split
  ·refine .bindA (wpAny_mkInt ?_)
   show wpS _ A.in1 (updateSeq S (fun _=> #[.int (preSum val i+val i) s'.toks]) >>= _) _ _ _
   refine .bindA ?_
   refine wpAny_updateSeq hS' rfl (.of (wpAny_pure ⟨plainId_quiet PySem.F.plain_sum_loop _,calm_b,ih (i+1) _ s'.toks c (nt221 hk hlt) hlt (W.upd _ _ (fun o=>o=accO (preSum val (i+1)) s'.toks c) s' _ (s'.toks+1) _ hT' (Heap.SameBut.update ..) (Heap.get?_update_self _ hS' rfl) rfl) hR⟩))
  ·rename_i hneg
   exact absurd hc hneg
theorem check_sum (a:Value):checkBuiltinCall "sum" ⟨[a],[]⟩=pure ():=by kernel_rfl
theorem callSumS {a:Addr} {s:Shared} {g n:Nat} {val:Nat→Int} {T:Nat→OP→Shared→Prop} {Fin:Shared→Prop} {Q:Value→Shared→Prop} (hg:s.heap.IsGen a g) (W:SumS prog w A a s.heap.objs.size n val T Fin) (hfit:∀j,j<n→InLong (val j)∧InLong (preSum val (j+1)))
  (h0:∀tk,T 0 (fun o=>o=accO 0 s.toks 0) { s with heap:=s.heap.push (accO 0 s.toks 0),toks:=tk}) (hQ:∀s' t',Fin s'→Q (.int (preSum val n) t') s'):wpS (model prog w) A (call (.builtin "sum") [.ref a]) Q E s:=by
 refine .call (.callBuiltin PySem.F.plain_sum calm_b PySem.F.entry_sum ?_)
 have main:wpS (model prog w) A.in1 (Builtin.«sum» ⟨[.ref a],[]⟩) (finS prog w A fun r s'=>match r with | .ok (.ret v)=>Q v s' | .ok _=>False | .error e=>E e s') (fun e s'=>E e s') s:=by
  unfold Builtin.«sum»
  refine .bindA (wpAny_of_eq (show Builtin.Builtins.bindParams "sum" ["start"] 0 {} =pure [none] from rfl) ?_)
  refine .bindA (wpAny_pyIter_gen hg ?_)
  refine .bindA (wpAny_mkInt ?_)
  refine .bindA (wpAny_pure ?_)
  dsimp only
  rw [List.forIn_cons]
  refine .bindA (wpAny_bind (wpAny_bind (wpAny_isInstance (T:= "int") (b:=false) (typeIs_int _ _ _) PySem.sub_int_str (wpAny_pure ?_))))
  dsimp only
  rw [List.forIn_cons]
  refine wpAny_bind (wpAny_bind (wpAny_isInstance (T:= "int") (b:=false) (typeIs_int _ _ _) PySem.sub_int_bytes (wpAny_pure ?_)))
  dsimp only
  rw [List.forIn_cons]
  refine wpAny_bind (wpAny_bind (wpAny_isInstance (T:= "int") (b:=false) (typeIs_int _ _ _) PySem.sub_int_bytearray (wpAny_pure ?_)))
  dsimp only
  rw [List.forIn_nil]
  refine wpAny_pure ?_
  refine .bindA (wpAny_newObj_type ?_)
  exact .of (wpAny_pure ⟨plainId_quiet PySem.F.plain_sum_loop _,calm_b,sumLoopS W hfit n 0 _ s.toks 0 rfl (Nat.zero_le _) (h0 _) fun s' t' hf=>hQ s' t' hf⟩)
 rw [check_sum];exact wpAny_pure main
end
end
section
set_option tactic.hygienic false
open PySem PySem.W PyProof.Rows
variable [GenI]
section
variable {B:PM} {ms:List (Addr×OP)} {h h':Heap}
theorem St.wrUpd {wr:List Addr} (S:St B ms h) (hk:∀b o,b∉wr→h.get? b=some o→h'.get? b=some o) (hB:∀a o,B a=some o→a∉wr) (hp:∀p∈ms,p.1∉wr∨∃o,h'.get? p.1=some o∧p.2 o):St B ms h':=by
 refine⟨fun a o e=>hk a o (hB a o e) (S.keep a o e),fun p hpm=>?_,S.off,S.nd,S.low,S.st2⟩
 rcases hp p hpm with q | q
 ·obtain⟨o,ho,r⟩:=S.own p hpm
  exact⟨o,hk _ _ q ho,r⟩
 ·exact q
theorem St.weakAll {ms':List (Addr×OP)} (S:St B ms h) (hm:ms'.map (·.1)=ms.map (·.1)) (hw:∀p∈ms',∃o,h.get? p.1=some o∧p.2 o):St B ms' h:=by
 have at_:∀p∈ms',∃q∈ms,q.1=p.1:=fun p hp=>by
  have:p.1∈ms.map (·.1):=hm▸List.mem_map_of_mem hp
  obtain⟨q,hq,e⟩:=List.mem_map.mp this
  exact⟨q,hq,e⟩
 refine⟨S.keep,hw,fun p hp=>?_,by rw [hm];exact S.nd,fun p hp=>?_,S.st2⟩
 ·obtain⟨q,hq,e⟩:=at_ p hp
  rw [←e];exact S.off q hq
 ·obtain⟨q,hq,e⟩:=at_ p hp
  rw [←e];exact S.low q hq
end
noncomputable abbrev nmE:List Str:=["u","v"]
noncomputable abbrev anyO:OP:=fun _=>True
noncomputable def wrL (wr:List Addr):List (Addr×OP):=wr.map fun a=>(a,anyO)
noncomputable def wrX (wr:List Addr) (h:Heap):List (Addr×OP):=wr.map fun a=>(a,fun o=>h.get? a=some o)
theorem wrL_fst (wr:List Addr):(wrL wr).map (·.1)=wr:=by unfold wrL;rw [List.map_map];exact List.map_id' _
theorem wrX_fst (wr:List Addr) (h:Heap):(wrX wr h).map (·.1)=wr:=by unfold wrX;rw [List.map_map];exact List.map_id' _
inductive GInv (B:PM) (C S:Addr) (wr:List Addr) (Ph:Nat→PM→List (Addr×OP)→Prop) (St₀:Nat→Heap→Prop) (i:Nat) (q:OP) (h:Heap):Prop
 | mk (B' rest) (f1:B.le B') (f2:Ph i B' rest) (f3:St B' ((C,FrameO nmE [.any,.any])::(S,q)::(wrL wr++rest)) h) (f4:St₀ i h):GInv B C S wr Ph St₀ i q h
inductive GEnd (B:PM) (S:Addr) (Ph:Nat→PM→List (Addr×OP)→Prop) (n:Nat) (q:OP) (h:Heap):Prop
 | mk (B' rest) (f1:B.le B') (f2:Ph n B' rest) (f3:St B' ((S,q)::rest) h):GEnd B S Ph n q h
section
variable {B:PM} {C S:Addr} {wr:List Addr} {Ph:Nat→PM→List (Addr×OP)→Prop} {St₀:Nat→Heap→Prop} {i n:Nat} {q:OP} {h:Heap}
theorem GInv.own (g:GInv B C S wr Ph St₀ i q h):∃o,h.get? S=some o∧q o:=by
 obtain⟨B',rest,_,_,H,_⟩:=g
 exact H.own (S,q) (.tail _ (.head _))
theorem GInv.exact (g:GInv B C S wr Ph St₀ i q h) {o:Obj} (ho:h.get? S=some o):GInv B C S wr Ph St₀ i (fun x=>x=o) h:=by
 obtain⟨B',rest,h1,h2,H,h3⟩:=g
 refine⟨B',rest,h1,h2,H.weakAll rfl fun p hp=>?_,h3⟩
 rcases List.mem_cons.mp hp with rfl | hp
 ·exact H.own _ (.head _)
 ·rcases List.mem_cons.mp hp with rfl | hp
  ·exact⟨o,ho,rfl⟩
  ·exact H.own _ (.tail _ (.tail _ hp))
end
section
variable {prog:Program} {w:World} {A:Around}
noncomputable def EltS (prog:Program) (w:World) (A:Around) (cenv:Env) (elt:PySem.Expr) (B:PM) (n:Nat) (Pt:Nat→Array Value→Prop) (Ph:Nat→PM→List (Addr×OP)→Prop) (F:Nat→Value→Prop):Prop:=
 ∀(GI:GenI) (i:Nat) (va vb:Value) (B':PM) (rest X:List (Addr×OP)) (h:Heap),i<n→Pt i #[va,vb]→B.le B'→Ph i B' rest→St B' ((cenv.locals,FrameO nmE [.val va,.val vb])::(X++rest)) h→
  @TrS GI prog w A _ (eval elt cenv) h (fun y h'=>F i y∧∃B'' rest',B'.le B''∧Ph (i+1) B'' rest'∧St B'' ((cenv.locals,FrameO nmE [.val va,.val vb])::(X++rest')) h') noX
noncomputable def genY (B:PM) (C S:Addr) (wr:List Addr) (Ph:Nat→PM→List (Addr×OP)→Prop) (St₀:Nat→Heap→Prop) (n:Nat) (F:Nat→Value→Prop) (G:Array GenState):Protocol:=fun m s₀ v s kap=>
 ∃i,i+1+m=n∧F i v∧(∃h tk,s = { s₀ with heap:=h,toks:=tk}∧∀o,s₀.heap.get? S=some o→GInv B C S wr Ph St₀ (i+1) (fun x=>x=o) h)∧
  ∀(s'':Shared) q,s''.gens=G→GInv B C S wr Ph St₀ (i+1) q s''.heap→kap (.send .none) s''
noncomputable def genR (B:PM) (S:Addr) (Ph:Nat→PM→List (Addr×OP)→Prop) (n:Nat):GenEnd:=fun m s₀ r s₁=>r = .ok .next∧(m=0∧∃h tk,s₁ = { s₀ with heap:=h,toks:=tk}∧∀o,s₀.heap.get? S=some o→GEnd B S Ph n (fun x=>x=o) h)
noncomputable abbrev gexp (elt iter:PySem.Expr) (pu pv pt:Pos) (kt:Nat) (scope:Scope) (pos:Pos):PySem.Expr:= .GeneratorExp elt [⟨.Tuple [.Name "u" pu,.Name "v" pv] kt pt,iter,[],0⟩] scope pos
theorem segS_loop {elt iter:PySem.Expr} {pu pv pt:Pos} {kt:Nat} {scope:Scope} {pos:Pos} {I S:Addr} {fp wr:List Addr} {n:Nat} {Pt:Nat→Array Value→Prop} {St₀:Nat→Heap→Prop} {Mid:Nat→Addr→Heap→Prop} {cenv:Env} {B:PM} {Ph:Nat→PM→List (Addr×OP)→Prop} {F:Nat→Value→Prop} {G:Array GenState}
  (hh:A.handled=none) (O:EnvOk cenv cenv.locals nmE) (hco:cenv.scope.isCoroutine=false) (W:∀A':Around,A'.handled=none→WalksU prog w A' I fp wr n Pt St₀ Mid) (hsz:∀i vals,Pt i vals→∃va vb,vals = #[va,vb]) (hfp:∀b∈fp,b∈wr∨∃o,B b=some o) (hat:∀i h,St₀ i h→∀a∈wr,∃o,h.get? a=some o)
  (helt:EltS prog w (A.over (.compLoop (gexp elt iter pu pv pt kt scope pos) 0 (.ref I) .none cenv) []) cenv elt B n Pt Ph F):
  ∀(k i:Nat) (s₀ s:Shared),n - i=k→i≤n→s₀.gens=G→(∃h tk,s = { s₀ with heap:=h,toks:=tk})→(∃o,s₀.heap.get? S=some o∧GInv B cenv.locals S wr Ph St₀ i (fun x=>x=o) s.heap)→
   SegS (model prog w) A (genR B S Ph n) (genY B cenv.locals S wr Ph St₀ n F G) (n - i) s₀ (.compLoop (gexp elt iter pu pv pt kt scope pos) 0 (.ref I) .none cenv)
    ((model prog w).den (.compLoop (gexp elt iter pu pv pt kt scope pos) 0 (.ref I) .none cenv)) s:=by
 have hh':(A.over (.compLoop (gexp elt iter pu pv pt kt scope pos) 0 (.ref I) .none cenv) []).handled=none:=hh
 intro k
 induction k with
 | zero=>
  intro i s₀ s hk hi hG hs hinv
  have hin:i=n:=nt125 hk hi
  subst hin
  obtain⟨h,tk,rfl⟩:=hs
  obtain⟨o,ho,B',rest,hle,hph,HS,hst⟩:=hinv
  rw [Nat.sub_self]
  show SegS _ A _ _ _ s₀ _ ((compTurn (gexp elt iter pu pv pt kt scope pos) 0 (.ref I) .none cenv).onRaise (leaving cenv)) _
  rw [compTurn_gen,Sem.onRaise_eq_wrap]
  refine segS_bind_wrap (.of (wpAny_standAt ?_))
  refine segS_bind_wrap (.of ((W _ hh').done _ _ _ hst fun h' tk' hk'=>?_))
  refine segS_end (.ok .next) ⟨rfl,rfl,h',tk',rfl,fun o' ho'=>?_⟩
  have eo:o'=o:=by rw [ho] at ho';obtain rfl:=Option.some.inj ho';rfl
  subst eo
  have nd:=HS.nd
  rw [List.map_cons,List.map_cons,List.map_append,wrL_fst] at nd
  have n1:=List.nodup_cons.mp nd
  have n2:=List.nodup_cons.mp n1.2
  have n3:=List.nodup_append.mp n2.2
  have HS2:St B' ((S,fun x=>x=o')::rest) h:=HS.dropTo _ (List.Sublist.cons _ (List.Sublist.cons_cons _ (List.sublist_append_right _ _)))
  refine⟨B',rest,hle,hph,HS2.wrUpd hk' (fun a ob e hm=>?_) fun p hp=>.inl fun hm=>?_⟩
  ·have:=HS.off (a,anyO) (.tail _ (.tail _ (List.mem_append_left _ (List.mem_map_of_mem (f:=fun a=>(a,anyO)) hm))))
   dsimp only at this
   rw [this] at e;contradiction
  ·rcases List.mem_cons.mp hp with rfl | hp
   ·exact n2.1 (List.mem_append_left _ hm)
   ·exact n3.2.2 p.1 hm p.1 (List.mem_map_of_mem hp) rfl
 | succ k ih=>
  intro i s₀ s hk hi hG hs hinv
  have hlt:i<n:=nt223 hk hi
  obtain⟨h,tk,rfl⟩:=hs
  obtain⟨o,ho,B',rest,hle,hph,HS,hst⟩:=hinv
  obtain⟨m,hm⟩:∃m,n - i=m+1:=⟨n - i - 1,by exact nt222 hk hlt⟩
  rw [hm]
  show SegS _ A _ _ _ s₀ _ ((compTurn (gexp elt iter pu pv pt kt scope pos) 0 (.ref I) .none cenv).onRaise (leaving cenv)) _
  rw [compTurn_gen,Sem.onRaise_eq_wrap]
  refine segS_bind_wrap (.of (wpAny_standAt ?_))
  refine segS_bind_wrap (.of ((W _ hh').item i _ _ _ hlt hst fun T vals h₁ tk₁ hPv hT₁ hmid hk₁=>?_))
  obtain⟨va,vb,rfl⟩:=hsz i vals hPv
  refine segS_bind_wrap (.of ((W _ hh').go _ _ _ i T _ _ _ hmid fun h₂ hst₂ hk₂=>?_))
  have hT₂:h₂.IsTuple T #[va,vb]:=let ⟨o,e,r⟩:=hT₁;⟨o,hk₂ _ o ((W _ hh').apart i T _ hmid) e,r⟩
  have nd:=HS.nd
  rw [List.map_cons,List.map_cons,List.map_append,wrL_fst] at nd
  have n1:=List.nodup_cons.mp nd
  have n2:=List.nodup_cons.mp n1.2
  have n3:=List.nodup_append.mp n2.2
  have hBw:∀a ob,B' a=some ob→a∉wr:=fun a ob e hm=>by
   have:=HS.off (a,anyO) (.tail _ (.tail _ (List.mem_append_left _ (List.mem_map_of_mem (f:=fun a=>(a,anyO)) hm))))
   dsimp only at this
   rw [this] at e;contradiction
  have HS₂:St B' ((cenv.locals,FrameO nmE [.any,.any])::(S,fun x=>x=o)::(wrL wr++rest)) h₂:=HS.wrUpd (fun b ob hb e=>hk₂ b ob hb (hk₁ b ob hb e)) hBw fun p hp=>by
   rcases List.mem_cons.mp hp with rfl | hp
   ·exact .inl fun hm=>n1.1 (.tail _ (List.mem_append_left _ hm))
   ·rcases List.mem_cons.mp hp with rfl | hp
    ·exact .inl fun hm=>n2.1 (List.mem_append_left _ hm)
    ·rcases List.mem_append.mp hp with hp | hp
     ·obtain⟨a,ha,rfl⟩:=List.mem_map.mp hp
      obtain⟨ob,hob⟩:=hat _ _ hst₂ a ha
      exact .inr ⟨ob,hob,trivial⟩
     ·exact .inl fun hm=>n3.2.2 p.1 hm p.1 (List.mem_map_of_mem hp) rfl
  refine segS_bind_wrap (.of (wpAny_assign_Tuple hh' hT₂ rfl rfl fun h₃ hx=>?_))
  replace hx:Heap.ExtBut h₂.objs.size h₂ h₃:=hx
  have HS₃:=HS₂.ext fun b ob e=>hx b ob (Nat.ne_of_lt (Heap.lt_size e)) e
  have hst₃:St₀ (i+1) h₃:=(W A hh).frame _ _ _ hst₂ fun b hb ob e=>hx b ob (Nat.ne_of_lt (Heap.lt_size e)) e
  have HX:St B' ((cenv.locals,FrameO nmE [.any,.any])::(((S,fun x=>x=o)::wrX wr h₃)++rest)) h₃:=HS₃.weakAll (by
   rw [List.map_cons,List.map_append,List.map_cons,wrX_fst,List.map_cons,List.map_cons,List.map_append,wrL_fst];rfl) fun p hp=>by
   rcases List.mem_cons.mp hp with rfl | hp
   ·exact HS₃.own _ (.head _)
   ·rcases List.mem_append.mp hp with hp | hp
    ·rcases List.mem_cons.mp hp with rfl | hp
     ·exact HS₃.own _ (.tail _ (.head _))
     ·obtain⟨a,ha,rfl⟩:=List.mem_map.mp hp
      obtain⟨ob,hob⟩:=hat _ _ hst₃ a ha
      exact⟨ob,hob,hob⟩
    ·exact HS₃.own p (.tail _ (.tail _ (List.mem_append_right _ hp)))
  show wpAny _ _ (do PySem.holding [vb] (PySem.assign (.Name "u" pu) cenv va);PySem.holding [] (PySem.assign (.Name "v" pv) cenv vb);pure ()) _ _ _
  refine wpAny_bind (wpAny_holding (wpAny_assign_Name (store_at O HX (i:=0) rfl (av:= .val va) rfl (by decide) fun h₄ tk₄ HS₄=>?_)))
  have HS₄:St B' ((cenv.locals,FrameO nmE [.val va,.any])::(((S,fun x=>x=o)::wrX wr h₃)++rest)) h₄:=HS₄
  refine wpAny_bind (wpAny_holding (wpAny_assign_Name (store_at O HS₄ (i:=1) rfl (av:= .val vb) rfl (by decide) fun h₅ tk₅ HS₅=>wpAny_pure ?_)))
  have HS₅:St B' ((cenv.locals,FrameO nmE [.val va,.val vb])::(((S,fun x=>x=o)::wrX wr h₃)++rest)) h₅:=HS₅
  simp only [List.forIn_nil]
  refine segS_bind_wrap (.of (wpAny_pure ?_))
  simp only [if_true]
  have hy:∀v,yieldOut cenv v=yieldValue v:=fun v=>by simp only [yieldOut,hco,Bool.false_eq_true,if_false]
  simp only [hy]
  rw [Sem.bind_eq_wrap',Sem.bind_eq_wrap',Sem.wrap_wrap,Sem.wrap_wrap]
  refine segS_wrap ?_
  refine helt ⟨fun g=>g=G⟩ i va vb B' rest _ h₅ hlt hPv hle hph HS₅ _ _ tk₅ _ _ _ hG (fun y h₆ g₆ tk₆ hg₆ hpost=>?_) fun _ _ _ _ _ z=>z.elim
  obtain⟨hF,B'',rest',hle2,hph2,HS₆⟩:=hpost
  have hg₆:g₆=G:=hg₆
  subst hg₆
  have keepW:∀a∈wr,∀ob,h₃.get? a=some ob→h₆.get? a=some ob:=fun a ha ob e=>by
   obtain⟨ob',h1,h2⟩:=HS₆.own (a,fun x=>h₃.get? a=some x) (.tail _ (List.mem_append_left _ (.tail _ (List.mem_map_of_mem (f:=fun a=>(a,fun x=>h₃.get? a=some x)) ha))))
   rw [e] at h2;obtain rfl:=Option.some.inj h2;exact h1
  have hst₆:St₀ (i+1) h₆:=(W A hh).frame _ _ _ hst₃ fun b hb ob e=>by
   rcases hfp b hb with hb | ⟨ob',hb⟩
   ·exact keepW b hb ob e
   ·have e1:=HX.keep b ob' (hle b ob' hb)
    have e2:ob'=ob:=by rw [e1] at e;exact Option.some.inj e
    rw [←e2]
    exact HS₆.keep b ob' (hle2 b ob' (hle b ob' hb))
  have HG:GInv B cenv.locals S wr Ph St₀ (i+1) (fun x=>x=o) h₆:=by
   refine⟨B'',rest',PM.le_trans hle hle2,hph2,HS₆.weakAll (by
    rw [List.map_cons,List.map_cons,List.map_append,wrL_fst,List.map_cons,List.map_append,List.map_cons,wrX_fst];rfl) fun p hp=>?_,hst₆⟩
   rcases List.mem_cons.mp hp with rfl | hp
   ·obtain⟨ob,h1,mm,h2,_⟩:=HS₆.own _ (.head _)
    exact⟨ob,h1,mm,h2,.cons trivial (.cons trivial .nil)⟩
   ·rcases List.mem_cons.mp hp with rfl | hp
    ·exact HS₆.own _ (.tail _ (List.mem_append_left _ (.head _)))
    ·rcases List.mem_append.mp hp with hp | hp
     ·obtain⟨a,ha,rfl⟩:=List.mem_map.mp hp
      obtain⟨ob,hob⟩:=hat _ _ hst₆ a ha
      exact⟨ob,hob,trivial⟩
     ·exact HS₆.own p (.tail _ (List.mem_append_right _ hp))
  refine segS_at (segS_yield rfl (by rfl) ⟨i,by exact nt298 hk hlt hm,hF,⟨h₆,tk₆,by rw [←hG],fun o' ho'=>?_⟩,fun s'' q hg'' hinv=>?_⟩)
  ·rw [ho] at ho';obtain rfl:=Option.some.inj ho';exact HG
  ·refine segS_again rfl rfl ?_
   obtain⟨ob,hob,_⟩:=hinv.own
   have:=ih (i+1) s'' s'' (nt296 hk hlt hm) hlt hg'' ⟨_,_,rfl⟩ ⟨ob,hob,hinv.exact hob⟩
   have e:n - (i+1)=m:=nt297 hk hlt hm
   rw [e] at this
   exact this
end
end
section
set_option tactic.hygienic false
open PySem PySem.W PyProof.Rows
variable [GenI]
section
variable {B:PM} {C S:Addr} {wr:List Addr} {Ph:Nat→PM→List (Addr×OP)→Prop} {St₀:Nat→Heap→Prop} {i n:Nat} {q q':OP} {h h':Heap}
theorem GInv.weak (g:GInv B C S wr Ph St₀ i q h) (hq:∀o,q o→q' o):GInv B C S wr Ph St₀ i q' h:=by
 obtain⟨B',rest,h1,h2,H,h3⟩:=g
 refine⟨B',rest,h1,h2,H.weakAll rfl fun p hp=>?_,h3⟩
 rcases List.mem_cons.mp hp with rfl | hp
 ·exact H.own _ (.head _)
 ·rcases List.mem_cons.mp hp with rfl | hp
  ·obtain⟨o,ho,r⟩:=H.own (S,q) (.tail _ (.head _))
   exact⟨o,ho,hq o r⟩
  ·exact H.own _ (.tail _ (.tail _ hp))
theorem GInv.upd (g:GInv B C S wr Ph St₀ i q h) {o':Obj} (hs:Heap.SameBut S h h') (ho:h'.get? S=some o') (hq:q' o') {fp:List Addr} (hst:∀h1,St₀ i h→(∀b∈fp,∀o,h.get? b=some o→h1.get? b=some o)→St₀ i h1) (hfp:∀b∈fp,b∈wr∨∃o,B b=some o):GInv B C S wr Ph St₀ i q' h':=by
 obtain⟨B',rest,h1,h2,H,h3⟩:=g
 refine⟨B',rest,h1,h2,H.upd (i:=1) rfl hs ho hq,hst h' h3 fun b hb o e=>(hs.2 b fun hbS=>?_).trans e⟩
 subst hbS
 have nd:=H.nd
 rw [List.map_cons,List.map_cons,List.map_append,wrL_fst] at nd
 rcases hfp b hb with hb | ⟨o2,hb⟩
 ·exact(List.nodup_cons.mp (List.nodup_cons.mp nd).2).1 (List.mem_append_left _ hb)
 ·have:=H.off (b,q) (.tail _ (.head _))
  dsimp only at this
  rw [h1 b o2 hb] at this;contradiction
end
section
variable {prog:Program} {w:World} {A:Around}
theorem segS_start {elt iter:PySem.Expr} {pu pv pt:Pos} {kt:Nat} {scope:Scope} {pos:Pos} {I S:Addr} {fp wr:List Addr} {n:Nat} {Pt:Nat→Array Value→Prop} {St₀:Nat→Heap→Prop} {Mid:Nat→Addr→Heap→Prop} {cenv:Env} {B:PM} {Ph:Nat→PM→List (Addr×OP)→Prop} {F:Nat→Value→Prop} {G:Array GenState}
  (hh:A.handled=none) (O:EnvOk cenv cenv.locals nmE) (hco:cenv.scope.isCoroutine=false) (W:∀A':Around,A'.handled=none→WalksU prog w A' I fp wr n Pt St₀ Mid) (hsz:∀i vals,Pt i vals→∃va vb,vals = #[va,vb]) (hfp:∀b∈fp,b∈wr∨∃o,B b=some o) (hat:∀i h,St₀ i h→∀a∈wr,∃o,h.get? a=some o)
  (helt:EltS prog w (A.over (.compLoop (gexp elt iter pu pv pt kt scope pos) 0 (.ref I) .none cenv) []) cenv elt B n Pt Ph F) (s₀:Shared) (hG:s₀.gens=G) (hinv:∃o,s₀.heap.get? S=some o∧GInv B cenv.locals S wr Ph St₀ 0 (fun x=>x=o) s₀.heap):
  SegS (model prog w) A (genR B S Ph n) (genY B cenv.locals S wr Ph St₀ n F G) n s₀ (.compStart (gexp elt iter pu pv pt kt scope pos) 0 (.ref I) .none cenv)
    ((model prog w).den (.compStart (gexp elt iter pu pv pt kt scope pos) 0 (.ref I) .none cenv)) s₀:=by
 have hh':(A.over (.compStart (gexp elt iter pu pv pt kt scope pos) 0 (.ref I) .none cenv) []).handled=none:=hh
 have loop:=segS_loop (iter:=iter) (pu:=pu) (pv:=pv) (pt:=pt) (kt:=kt) (scope:=scope) (pos:=pos) hh O hco W hsz hfp hat helt n 0 s₀ s₀ (Nat.sub_zero _) (Nat.zero_le _) hG ⟨_,_,rfl⟩ hinv
 rw [Nat.sub_zero] at loop
 obtain⟨o,ho,B',rest,hle,hph,HS,hst⟩:=hinv
 show SegS _ A _ _ _ s₀ _ ((compStart (gexp elt iter pu pv pt kt scope pos) 0 (.ref I) .none cenv).onRaise (leaving cenv)) s₀
 unfold compStart
 rw [Sem.onRaise_eq_wrap]
 show SegS _ A _ _ _ s₀ _ ((ask >>= _).wrap _ _ _ _) s₀
 refine segS_bind_wrap (.of (wpAny_askSetting ?_))
 split
 ·exact segS_again rfl rfl loop
 ·first
   | exact segS_bind_wrap (.of (wpAny_rule (segS_bind_wrap (.of (wpAny_standAt (segS_bind_wrap (.of ((W _ hh').self 0 s₀ _ _ hst (segS_again rfl rfl loop)))))))))
   | (refine segS_bind_wrap (.of (wpAny_rule ?_));show SegS _ A _ _ _ s₀ _ ((standAt iter.pos >>= _).wrap _ _ _ _) s₀;exact segS_bind_wrap (.of (wpAny_standAt (segS_bind_wrap (.of ((W _ hh').self 0 s₀ _ _ hst (segS_again rfl rfl loop)))))))
noncomputable def GState (prog:Program) (w:World) (A:Around) (B:PM) (C S:Addr) (wr:List Addr) (Ph:Nat→PM→List (Addr×OP)→Prop) (St₀:Nat→Heap→Prop) (n:Nat) (F:Nat→Value→Prop) (arr:Array GenState) (d:Drawn) (os:OsState) (i:Nat) (q:OP) (s:Shared):Prop:=
 ∃gs,gs.bare=true∧s.gens=arr.push gs∧s.drawn=d∧s.os=os∧GInv B C S wr Ph St₀ i q s.heap∧
  ∀(s'':Shared) q',s''.gens=arr.push .running→GInv B C S wr Ph St₀ i q' s''.heap→GoesS (model prog w) A (genR B S Ph n) (genY B C S wr Ph St₀ n F (arr.push .running)) (n - i) gs (.send .none) s''
theorem set_push (arr:Array GenState) (x y:GenState):(arr.push x).setIfInBounds arr.size y=arr.push y:=by
 apply Array.ext_getElem?
 intro i
 rw [Array.getElem?_setIfInBounds,Array.getElem?_push,Array.getElem?_push]
 by_cases q:arr.size=i
 ·subst q;simp
 ·have q':¬i=arr.size:=fun e=>q e.symm
  simp [q,q']
theorem genSum {a:Addr} {B:PM} {C S:Addr} {fp wr:List Addr} {Ph:Nat→PM→List (Addr×OP)→Prop} {St₀:Nat→Heap→Prop} {n:Nat} {F:Nat→Value→Prop} {val:Nat→Int} {arr:Array GenState} {d:Drawn} {os:OsState}
  (hh:A.handled=none) (hroom:A.depth<recursionLimit) (hG:∀h:Heap,(∀b o,B b=some o→h.get? b=some o)→h.IsGen a arr.size) (hl:NoLim B) (hF:∀i v,F i v→∃t,v = .int (val i) t)
  (hfp:∀b∈fp,b∈wr∨∃o,B b=some o) (hst:∀i h h1,St₀ i h→(∀b∈fp,∀o,h.get? b=some o→h1.get? b=some o)→St₀ i h1):
  SumS prog w A a S n val (fun i q s=>GState prog w A.in1.in1 B C S wr Ph St₀ n F arr d os i q s) (fun s=>s.gens=arr.push .finished∧s.drawn=d∧s.os=os∧∃q,GEnd B S Ph n q s.heap):=by
 have keepB:∀{i q} {h:Heap},GInv B C S wr Ph St₀ i q h→∀b o,B b=some o→h.get? b=some o:=fun g b o e=>by
  obtain⟨B',rest,h1,_,H,_⟩:=g
  exact H.keep b o (h1 b o e)
 have lim:∀{h:Heap},(∀b o,B b=some o→h.get? b=some o)→h.NoLimit:=fun hk=>by
  obtain⟨o,mc,e,r1,r2⟩:=hl
  exact⟨mc,ns_iff.mpr ⟨o,hk _ _ e,r1⟩,r2⟩
 refine⟨fun i q q' s h' tk o' ⟨gs,e1,e2,e3,e4,g,k⟩ hs ho hq=>⟨gs,e1,e2,e3,e4,g.upd hs ho hq (hst i s.heap) hfp,k⟩,fun i q s ⟨gs,e1,e2,e3,e4,g,k⟩=>g.own,?_,?_⟩
 ·intro i q s Q E hi ⟨gs,e1,e2,e3,e4,g,k⟩ hQ
  have er:(s.setGen arr.size .running).gens=arr.push .running:=by unfold Shared.setGen;rw [e2];exact set_push ..
  refine wpS.pyNextGen (g:=arr.size) (n:=n - i) (P:=fun m s₀ s₁=>m=0∧∃h tk,s₁ = { s₀ with heap:=h,toks:=tk}∧∀o,s₀.heap.get? S=some o→GEnd B S Ph n (fun x=>x=o) h) (Y:=genY B C S wr Ph St₀ n F (arr.push .running)) hh (lim (keepB g)) hroom (hG _ (keepB g)) (by rw [e2];exact Array.getElem?_push_size) (k (s.setGen arr.size .running) q er g) (fun v s₁ gs' hb hy=>?_) (fun s₁ hp=>absurd hp.1 (by omega))
  obtain⟨i',hi',hFv,⟨h,tk,rfl,hg⟩,hk⟩:=hy
  have:i'=i:=nt233 hi hi'
  subst this
  obtain⟨t,rfl⟩:=hF _ _ hFv
  obtain⟨o,ho,hqo⟩:=g.own
  refine hQ t _ ⟨gs',hb,?_,e3,e4,(hg o ho).weak fun x hx=>by rw [hx];exact hqo,fun s'' q' hgs hinv=>?_⟩
  ·show(s.setGen arr.size .running).gens.setIfInBounds arr.size gs'=_
   rw [er];exact set_push ..
  ·have:=hk s'' q' hgs hinv
   obtain⟨m,hm⟩:∃m,n - i'=m+1:=⟨n - i' - 1,by exact nt138 hi hi'⟩
   rw [hm] at this
   have e:n - (i'+1)=m:=nt226 hi hi' hm
   rw [e]
   exact this
 ·intro q s Q E ⟨gs,e1,e2,e3,e4,g,k⟩ hQ
  have er:(s.setGen arr.size .running).gens=arr.push .running:=by unfold Shared.setGen;rw [e2];exact set_push ..
  refine wpS.pyNextGen (g:=arr.size) (n:=n - n) (P:=fun m s₀ s₁=>m=0∧∃h tk,s₁ = { s₀ with heap:=h,toks:=tk}∧∀o,s₀.heap.get? S=some o→GEnd B S Ph n (fun x=>x=o) h) (Y:=genY B C S wr Ph St₀ n F (arr.push .running)) hh (lim (keepB g)) hroom (hG _ (keepB g)) (by rw [e2];exact Array.getElem?_push_size) (k (s.setGen arr.size .running) q er g) (fun v s₁ gs' hb hy=>?_) (fun s₁ hp h' hk=>?_)
  ·obtain⟨i',hi',hFv,⟨h,tk,rfl,hg⟩,hk⟩:=hy
   obtain⟨o,ho,hqo⟩:=g.own
   have:=hk { s.setGen arr.size .running with heap:=h,toks:=tk} _ er (hg o ho)
   rw [Nat.sub_self] at this
   exact this.elim
  ·obtain⟨_,h,tk,rfl,hg⟩:=hp
   obtain⟨o,ho,hqo⟩:=g.own
   obtain⟨B',rest,h1,h2,H⟩:=hg o ho
   refine hQ _ ⟨?_,e3,e4,_,B',rest,h1,h2,H.ext hk⟩
   show(s.setGen arr.size .running).gens.setIfInBounds arr.size .finished=_
   rw [er];exact set_push ..
end
end
section
set_option tactic.hygienic false
open PySem PySem.W PyProof.Rows
variable [GenI]
theorem slicePick_but (items:Array Value) (h:1≤items.size):slicePick items none (some (-1)) none=items.toList.dropLast.toArray:=by
 have e:sliceBounds none (some (-1)) none items.size=sliceBounds none (some ((items.size - 1:Nat):Int)) none items.size:=by
  unfold sliceBounds
  simp only [Option.getD_none]
  have h1:((-1:Int)<0):=nt0
  have h2:¬(((items.size - 1:Nat):Int)<0):=nt98
  simp only [h1,h2,if_true,if_false,show(1:Int)>0 by decide]
  congr 2
  exact nt44 h h2
 have e2:slicePick items none (some (-1)) none=slicePick items none (some ((items.size - 1:Nat):Int)) none:=by
  unfold slicePick;rw [e]
 rw [e2,slicePick_upto _ _ (nt42 h),List.dropLast_eq_take]
 simp
section
variable {prog:Program} {w:World} {A:Around} {env:Env} {h:Heap} {X:Value→Heap→Prop} {B:PM} {ms:List (Addr×OP)} {L:Addr} {nms:List Str} {avs:List AV} {pos:Pos} {K:Frag}
noncomputable def PartE (prog:Program) (w:World) (A:Around) (env:Env) (h:Heap) (x:Option PySem.Expr) (lo:Option Int):Prop:=match x,lo with
 | none,none=>True
 | some e,some i=>Ev prog w A env h e (.int i)
 | _,_=>False
theorem PartE.go {x:Option PySem.Expr} {lo:Option Int} (p:PartE prog w A env h x lo) {g d tk os} {Q:Value→Shared→Prop} {E} (hq:∀v tk',IsPart v lo→Q v ⟨h,g,d,tk',os⟩):wpAny (model prog w) A (evalPart x env) Q E ⟨h,g,d,tk,os⟩:=by
 cases x with
 | none=>
  cases lo with
  | none=>exact wpAny_evalPart_none (hq _ _ .none)
  | some i=>exact p.elim
 | some e=>
  cases lo with
  | none=>exact p.elim
  | some i=>exact wpAny_evalPart_some (p g d tk os _ _ fun v tk' ⟨t,hv⟩=>by subst hv;exact hq _ _ (.int ..))
theorem Tr.slice {e:PySem.Expr} {lower upper:Option PySem.Expr} {p:Pos} {l:Addr} {xs:List Value} {lo hi:Option Int} {o:Obj} {P:Value→Heap→Prop} (he:Ev prog w A env h e (.val (.ref l))) (S:St B ms h) (ho:B l=some o) (hl:LiO xs o) (hz:xs.length≤100) (h1:PartE prog w A env h lower lo) (h2:PartE prog w A env h upper hi)
  (k:∀D o' h',B D=none→o' = { cls:= .type "list",data:= .seq (slicePick xs.toArray lo hi none)}→St (B.put D o') ms h'→P (.ref D) h')
  (ht:∀o r,letTemporaryGo e o r=Pure.pure ():=by intro _ _;rfl):Tr prog w A (eval (.Subscript e (.Slice lower upper none p) pos) env) h P X:=by
 intro g d tk os Q E hg hq hE
 refine wpAny_Subscript_list_slice (he g d tk os _ E fun v tk1 hv=>h1.go fun vl tk2 hvl=>h2.go fun vu tk3 hvu=>?_) ht
 have hv':v = .ref l:=hv
 refine⟨l,xs.toArray,lo,hi,hv',⟨o,S.keep _ _ ho,hl.list⟩,by rw [sizeLine_eq,List.size_toArray];exact nt80 hz,hvl,hvu,?_⟩
 have S1:=S.pushX { cls:= .type "slice",data:= .fields #[vl,vu,.none]}
 have S2:=S1.pushB (o:={ cls:= .type "list",data:= .seq (slicePick xs.toArray lo hi none)})
 have hn:=S1.notB_of_none (St.push_none (h.push { cls:= .type "slice",data:= .fields #[vl,vu,.none]}))
 rw [Heap.size_push] at S2 hn
 exact hq _ _ _ _ hg (k _ _ _ hn rfl S2)
noncomputable abbrev zWr (z TO i1 i2:Addr):List Addr:=[z,TO,i1,i2]
noncomputable abbrev zFp (z TI TO i1 i2 l1 l2:Addr):List Addr:=[z,TI,TO,i1,i2,l1,l2]
noncomputable abbrev zSt (z TI TO i1 i2 l1 l2:Addr) (xs ys:Array Value):Nat→Heap→Prop:=fun i h=>IsZip h z TI TO .none∧IsPair h TI (.ref i1) (.ref i2)∧(∃a b,IsPair h TO a b)∧h.IsListIter i1 l1 i∧h.IsListIter i2 l2 i∧h.IsList l1 xs∧h.IsList l2 ys
theorem zNd (n:Nat):(zWr (n+4) (n+3) n (n+1)).Nodup:=by
 have:([n+4,n+3,n,n+1]:List Nat).Nodup:=by simp
 exact this
theorem zAp (n a b:Nat) (ha:a<n) (hb:b<n):ZipApart (n+4) (n+2) (n+3) n (n+1) a b:=by
 have g:∀x y:Nat,(x<y∨y<x)→x≠y:=fun x y q=>by exact nt154 q
 exact⟨g _ _ nt55,g _ _ nt58,g _ _ nt67,g _ _ nt50,g _ _ nt54,g _ _ nt56,g _ _ nt53,g _ _ nt59,g _ _ nt57,g _ _ nt66,g _ _ (nt143 ha),g _ _ (nt142 ha),g _ _ (nt144 ha),g _ _ (nt141 ha),g _ _ (nt143 hb),g _ _ (nt142 hb),g _ _ (nt144 hb),g _ _ (nt141 hb)⟩
theorem Tr.zip2 {l1 l2:Addr} {o1 o2:Obj} {xs ys:Array Value} {P:Value→Heap→Prop} (S:St B ms h) (h1:B l1=some o1) (h2:B l2=some o2) (e1:ListO xs o1) (e2:ListO ys o2)
  (k:∀z TI TO i1 i2 B' h',B.le B'→(∃o,B' TI=some o)→ZipApart z TI TO i1 i2 l1 l2→(zWr z TO i1 i2).Nodup→St B' (wrL (zWr z TO i1 i2)++ms) h'→zSt z TI TO i1 i2 l1 l2 xs ys 0 h'→P (.ref z) h'):
  Tr prog w A (call (.type "zip") [.ref l1,.ref l2]) h P X:=by
 intro g d tk os Q E hg hq hE
 refine call_zip_2 (s:=⟨h,g,d,tk,os⟩) ⟨o1,S.keep _ _ h1,e1⟩ ⟨o2,S.keep _ _ h2,e2⟩ fun h' hz hTI hTO hi1 hi2 hsz hk=>?_
 dsimp only at hz hTI hTO hi1 hi2 hsz hk
 have none_of:∀a,h.objs.size≤a→h.get? a=none:=fun a ha=>by
  cases q:h.get? a with
  | none=>rfl
  | some o=>exact absurd (Heap.lt_size q) (Nat.not_lt.mpr ha)
 have l1lt:l1<h.objs.size:=Heap.lt_size (S.keep _ _ h1)
 have l2lt:l2<h.objs.size:=Heap.lt_size (S.keep _ _ h2)
 have s2:=S.size2
 have S1:St B (wrL (zWr (h.objs.size+4) (h.objs.size+3) h.objs.size (h.objs.size+1))++ms) h':=by
  refine S.newMs hk (fun p hp=>?_) (by rw [wrL_fst];exact zNd _)
  obtain⟨a,ha,rfl⟩:=List.mem_map.mp hp
  simp only [zWr,List.mem_cons,List.not_mem_nil,or_false] at ha
  rcases ha with rfl | rfl | rfl | rfl
  ·exact⟨none_of _ (Nat.le_add_right ..),Nat.lt_of_lt_of_le s2 (Nat.le_add_right ..),_,hz,trivial⟩
  ·exact⟨none_of _ (Nat.le_add_right ..),Nat.lt_of_lt_of_le s2 (Nat.le_add_right ..),_,hTO,trivial⟩
  ·obtain⟨o,ho,_⟩:=hi1;exact⟨none_of _ (Nat.le_refl _),s2,o,ho,trivial⟩
  ·obtain⟨o,ho,_⟩:=hi2;exact⟨none_of _ (Nat.le_add_right ..),Nat.lt_of_lt_of_le s2 (Nat.le_add_right ..),o,ho,trivial⟩
 have hTIn:h.objs.size+2∉(wrL (zWr (h.objs.size+4) (h.objs.size+3) h.objs.size (h.objs.size+1))++ms).map (·.1):=by
  rw [List.map_append,wrL_fst]
  intro hm
  rcases List.mem_append.mp hm with hm | hm
  ·simp [zWr] at hm
  ·exact S.notMs_of_none (none_of _ (Nat.le_add_right ..)) hm
 have S2:=S1.addB hTIn hTI
 have hBn:B (h.objs.size+2)=none:=S.notB_of_none (none_of _ (Nat.le_add_right ..))
 refine hq _ _ _ _ hg (k (h.objs.size+4) (h.objs.size+2) (h.objs.size+3) h.objs.size (h.objs.size+1) _ h' (PM.le_put hBn) ⟨_,PM.put_self⟩ (zAp _ _ _ l1lt l2lt) (zNd _) S2 ⟨hz,hTI,⟨_,_,hTO⟩,hi1,hi2,?_,?_⟩)
 ·exact⟨o1,hk _ _ (S.keep _ _ h1),e1⟩
 ·exact⟨o2,hk _ _ (S.keep _ _ h2),e2⟩
end
section
variable {prog:Program} {w:World} {A:Around} {E:Value→Shared→Prop} {s:Shared} {env:Env}
theorem wpS.callRaw {es:List PySem.Expr} {pos:Pos} {f:Value} {Q:Value→Shared→Prop} (hs:wpS (model prog w) A (evL es env) (fun vs s₁=>Kp prog w s₁.heap f∧wpS (model prog w) A (PySem.call f vs) Q E s₁) E s) (hn:StarE es env:=by rfl):
  wpS (model prog w) A (PySem.callWith pos f [] (backTo pos (starEach es env)) []) Q E s:= .callWith (first:=[]) hs hn
theorem wpS.callName1 {x:Str} {np pos:Pos} {e:PySem.Expr} {f:Value} {Q:Value→Shared→Prop} (hf:wpAny (model prog w) A (eval (.Name x np) env) (fun v s'=>v=f∧wpS (model prog w) A (eval e env) (fun v s₁=>Kp prog w s₁.heap f∧wpS (model prog w) A (PySem.call f [v]) Q E s₁) E s') E s) (hn:StarE [e] env:=by rfl):
  wpS (model prog w) A (eval (.Call (.Name x np) [e] [] pos) env) Q E s:=by
 show wpS _ A (do PySem.callWith pos (←eval (.Name x np) env) [] (backTo pos (starEach [e] env)) (backToKw pos (keywordEach [] env))) Q E _
 refine .bindA (wpAny_mono hf (fun v s' hv=>?_) fun _ _ x=>x)
 obtain⟨rfl,h1⟩:=hv
 refine wpS.callRaw (es:=[e]) ?_ hn
 show wpS _ A (eval e env >>= _) _ E _
 refine .bind (h1.mono (fun r s₁ k=>?_) fun _ _ x=>x)
 exact .bindA (wpAny_pure (.bindS (.holding (.of (wpAny_pure (wpAny_pure k))))))
end
end
section
set_option tactic.hygienic false
open PySem PySem.W PyProof.Rows
section
variable {prog:Program} {w:World} {A:Around} {env:Env} {h:Heap} {X:Value→Heap→Prop} {B:PM} {ms:List (Addr×OP)} {L:Addr} {nms:List Str} {avs:List AV} {pos:Pos} {K:Frag}
theorem Ev.intOf {e:PySem.Expr} {i:Int} {t:Tok} (he:Ev prog w A env h e (.val (.int i t))):Ev prog w A env h e (.int i):=fun g d tk os Q E hq=>he g d tk os Q E fun v tk' hv=>hq v tk' ⟨t,hv⟩
noncomputable def PhA (dn ad j:Addr) (l:List (Str×Value)) (ms0:List (Addr×OP)) (i:Nat) (B:PM) (rest:List (Addr×OP)):Prop:=
 (i=0∧rest=ms0)∨(0<i∧∃vw,rest=ms0.set j (dn,InsW (putA "adj" (.ref vw) l))∧ViewB B vw 291 ad)
structure SumC (prog:Program) (w:World) (K:Frag) (B:PM) (cenv:Env) (dir:Bool) (net dn ad j n m:Nat) (l:List (Str×Value)) (ms0:List (Addr×OP)) (E:Nat→Nat→Option (Option Nat)) (pn cw:Nat→Nat):Prop where
 O:EnvOk cenv cenv.locals nmE
 item:ItemF K B
 bd:BdF prog w K B
 inst:∃ox,B net=some ox∧PlainO (clsOf dir) dn (fun _=>True) ox
 adj:AdjAt dir l ad
 tab:TabB prog w B ad n E
 no:getA l "adj" =none
 len:l.length≤900
 at_:ms0[j]?=some (dn,InsW l)
 kG:cenv.kindOf "G" =some .free
 kW:cenv.kindOf "weight" =some .free
 cells:∃c1 c2 o1 o2,cenv.cells.lookup ("G" :Str)=some c1∧cenv.cells.lookup ("weight" :Str)=some c2∧B c1=some o1∧o1.data = .cell (some (.ref net))∧B c2=some o2∧o2.data = .cell (some (.ref 966))
 edge:∀i<m,E (pn i) (pn (i+1))=some (some (cw i))∧pn i<n
theorem list_at {C:Addr×OP} {X r:List (Addr×OP)} {j:Nat}:(C::(X++r))[X.length+j+1]?=r[j]?:=by
 rw [List.getElem?_cons_succ,List.getElem?_append_right (Nat.le_add_right _ _),Nat.add_sub_cancel_left]
theorem list_set {C q:Addr×OP} {X r:List (Addr×OP)} {j:Nat}:(C::(X++r)).set (X.length+j+1) q=C::(X++r.set j q):=by
 rw [List.set_cons_succ,List.set_append_right _ _ (Nat.le_add_right _ _),Nat.add_sub_cancel_left]
theorem elt_ok {cenv:Env} {dir:Bool} {net dn ad j n m:Nat} {l:List (Str×Value)} {ms0:List (Addr×OP)} {E:Nat→Nat→Option (Option Nat)} {pn cw:Nat→Nat} {Pt:Nat→Array Value→Prop} {q1 q2 q3 q4 q5 q6 q7 q8 q9:Pos} (Rm:Room A 14 70) (C:SumC prog w K B cenv dir net dn ad j n m l ms0 E pn cw)
  (hPt:∀i va vb,i<m→Pt i #[va,vb]→(∃t,va = .int (pn i:Nat) t)∧∃t,vb = .int (pn (i+1):Nat) t):
  EltS prog w A cenv (.Call (.Name "weight" q1) [.Name "u" q2,.Name "v" q3,.Subscript (.Subscript (.Name "G" q4) (.Name "u" q5) q6) (.Name "v" q7) q8] [] q9) B m Pt (PhA dn ad j l ms0) (fun i v=>∃t,v = .int (cw i:Nat) t):=by
 intro GI i va vb B' rest X h hi hpt hle hph S
 obtain⟨⟨tu,rfl⟩,tv,rfl⟩:=hPt i va vb hi hpt
 obtain⟨hE,hpn⟩:=C.edge i hi
 obtain⟨c1,c2,o1,o2,k1,k2,b1,d1,b2,d2⟩:=C.cells
 obtain⟨ox,hox,hpl⟩:=C.inst
 have F:=C.item.le hle
 have bd:=C.bd.le hle
 have eU:∀{B' ms h},St B' ((cenv.locals,FrameO nmE [.val (.int (pn i:Nat) tu),.val (.int (pn (i+1):Nat) tv)])::ms) h→∀p,Ev prog w A cenv h (.Name "u" p) (.val (.int (pn i:Nat) tu)):=fun S p=>.name C.O S 0 rfl rfl
 have eV:∀{B' ms h},St B' ((cenv.locals,FrameO nmE [.val (.int (pn i:Nat) tu),.val (.int (pn (i+1):Nat) tv)])::ms) h→∀p,Ev prog w A cenv h (.Name "v" p) (.val (.int (pn (i+1):Nat) tv)):=fun S p=>.name C.O S 1 rfl rfl
 refine TrS.callName (.free C.O.kind C.kW k2 ⟨o2,S.keep _ _ (hle _ _ b2),d2⟩) (.evE (eU S q2) fun v1 hv1=>.evE (eV S q3) fun v2 hv2=>.evCons ?_)
 have e1:v1 = .int (pn i:Nat) tu:=hv1
 have e2:v2 = .int (pn (i+1):Nat) tv:=hv2
 subst e1 e2
 have fin:∀{z ra kvs B'' h2 rest'},B'.le B''→ViewB B'' z 269 ra→RowB prog w B'' ra n (E (pn i)) kvs→PhA dn ad j l ms0 (i+1) B'' rest'→St B'' ((cenv.locals,FrameO nmE [.val (.int (pn i:Nat) tu),.val (.int (pn (i+1):Nat) tv)])::(X++rest')) h2→
   SubS prog w A cenv noX (fun y h3=>TrS prog w A (evL [] cenv) h3 (fun vs h4=>Kp prog w h4 (.ref 966)∧TrS prog w A (call (.ref 966) (.int (pn i:Nat) tu:: .int (pn (i+1):Nat) tv::y::vs)) h4
    (fun y h'=>(∃t,y = .int (cw i:Nat) t)∧∃B'' rest',B'.le B''∧PhA dn ad j l ms0 (i+1) B'' rest'∧St B'' ((cenv.locals,FrameO nmE [.val (.int (pn i:Nat) tu),.val (.int (pn (i+1):Nat) tv)])::(X++rest')) h') noX) noX) K (.Name "v" q7) (.int (pn (i+1):Nat)) (.ref z) h2:=fun {z ra kvs B'' h2 rest'} hle2 vz hr hph2 S2=>by
  obtain⟨oz,odz,Iz,_⟩:=vz.inst S2
  have hK2:=bd.inK.le hle2
  refine⟨z,269,251,oz,some odz,rfl,hK2.in S2,Iz,F.mA.1,F.mA.2,.intOf (eV S2 q7),fun vi hvi=>?_⟩
  obtain⟨ti,rfl⟩:=hvi
  refine .of ((agi_ok (Rm.le (d':=2) (u':=11) (by decide) (by decide)).in1 hK2 (F.le hle2) S2 vz hr hE).post fun y h3 zq0=>?_)
  obtain⟨da,od,ey,eda,hda,hdm,S3⟩:=zq0
  subst ey
  refine .evNil ⟨.ofFn S3 (bd.le hle2).lw,.of ((lw_ok (Rm.le (by decide) (by decide)) (bd.le hle2).lw (bd.le hle2).lim S3 eda hda hdm).post fun v h4 zq0=>?_)⟩
  obtain⟨hv,S4⟩:=zq0
  exact⟨hv,B'',rest',hle2,hph2,S4⟩
 rcases hph with⟨rfl,rfl⟩ | ⟨hpos,vw,rfl,vb⟩
 ·-- the first time
  refine TrS.subOwn (K:=K) (k:= .int (pn (0+1):Nat)) (TrS.subOwn (K:=K) (k:= .int (pn 0:Nat)) (.of (.ofEv (.free C.O.kind C.kG k1 ⟨o1,S.keep _ _ (hle _ _ b1),d1⟩) fun v hv=>?_)))
  have hv':v = .ref net:=hv
  subst hv'
  have hj:((cenv.locals,FrameO nmE [.val (.int (pn 0:Nat) tu),.val (.int (pn (0+1):Nat) tv)])::(X++rest))[X.length+j+1]?=some (dn,InsW l):=list_at.trans C.at_
  obtain⟨od,hod,_⟩:=S.mem hj
  refine⟨net,clsOf dir,630,ox,some od,rfl,bd.inK.in S,instAt (S.keep _ _ (hle _ _ hox)) hpl.1 hpl.2.1 hpl.2.2.1 hod,F.mG dir,F.mG',.intOf (eU S q5),fun vi hvi=>?_⟩
  obtain⟨ti,rfl⟩:=hvi
  refine(gi_first (Rm.le (d':=12) (u':=61) (by decide) (by decide)).in1 bd.inK F S (hle _ _ hox) hpl hj C.adj C.no C.len (C.tab.le hle) hpn).tr.post fun y h2 zq0=>?_
  obtain⟨z,vw,B'',ra,kvs,ey,hle2,vvw,vz,hr,S2⟩:=zq0
  subst ey
  rw [list_set] at S2
  exact fin hle2 vz hr (.inr ⟨by exact nt2,vw,rfl,vvw⟩) S2
 ·-- and later
  refine TrS.subOwn (K:=K) (k:= .int (pn (i+1):Nat)) (TrS.subOwn (K:=K) (k:= .int (pn i:Nat)) (.of (.ofEv (.free C.O.kind C.kG k1 ⟨o1,S.keep _ _ (hle _ _ b1),d1⟩) fun v hv=>?_)))
  have hv':v = .ref net:=hv
  subst hv'
  have hj:((cenv.locals,FrameO nmE [.val (.int (pn i:Nat) tu),.val (.int (pn (i+1):Nat) tv)])::(X++ms0.set j (dn,InsW (putA "adj" (.ref vw) l))))[X.length+j+1]?=some (dn,InsW (putA "adj" (.ref vw) l)):=by
   rw [list_at]
   obtain⟨hl,_⟩:=List.getElem?_eq_some_iff.mp C.at_
   rw [List.getElem?_set_self hl]
  obtain⟨od,hod,_⟩:=S.mem hj
  refine⟨net,clsOf dir,630,ox,some od,rfl,bd.inK.in S,instAt (S.keep _ _ (hle _ _ hox)) hpl.1 hpl.2.1 hpl.2.2.1 hod,F.mG dir,F.mG',.intOf (eU S q5),fun vi hvi=>?_⟩
  obtain⟨ti,rfl⟩:=hvi
  refine .of ((gi_next (Rm.le (d':=12) (u':=61) (by decide) (by decide)).in1 bd.inK F S (hle _ _ hox) hpl hj (putA_look _) vb (C.tab.le hle) hpn).tr.post fun y h2 zq0=>?_)
  obtain⟨z,B'',ra,kvs,ey,hle2,vz,hr,S2⟩:=zq0
  subst ey
  exact fin hle2 vz hr (.inr ⟨by exact nt33 hpos,vw,rfl,vb.le hle2⟩) S2
end
end
section
set_option tactic.hygienic false
open PySem PySem.W PyProof.Rows
noncomputable def wayAt (p:List Nat) (i:Nat):Nat:=p.getD i 0
theorem preSum_shift (val:Nat→Int):∀j,preSum val (j+1)=val 0+preSum (fun i=>val (i+1)) j
 | 0=>by simp [preSum]
 | j+1=>by
  show preSum val (j+1)+val (j+1)=val 0+(preSum (fun i=>val (i+1)) j+val (j+1))
  rw [preSum_shift val j];exact nt198
theorem Way.weights {W:WRel} {x y d:Nat} {p:List Nat} (h:Way W x p y d):∃cw:Nat→Nat,(∀i,i+1<p.length→W (wayAt p i) (wayAt p (i+1)) (cw i))∧preSum (fun i=>(cw i:Int)) (p.length - 1)=d∧1≤p.length∧wayAt p 0=x:=by
 induction h with
 | one=>exact⟨fun _=>0,fun i hi=>by simp at hi,rfl,by simp,rfl⟩
 | @cons x y z l c d e r ih=>
  obtain⟨cw,h1,h2,h3,h4⟩:=ih
  refine⟨fun i=>match i with | 0=>c | i+1=>cw i,fun i hi=>?_,?_,by simp,rfl⟩
  ·cases i with
   | zero=>
    show W x (wayAt (x::l) 1) c
    have:wayAt (x::l) 1=wayAt l 0:=rfl
    rw [this,h4];exact e
   | succ i=>exact h1 i (by simpa using hi)
  ·obtain⟨m,hm⟩:∃m,l.length=m+1:=⟨l.length - 1,by exact nt43 h3⟩
   have e1:(x::l).length - 1=m+1:=by simp [hm]
   rw [e1,preSum_shift]
   have e2:l.length - 1=m:=nt202 h3 hm e1
   rw [e2] at h2
   show(c:Int)+preSum (fun i=>(cw i:Int)) m=((c+d:Nat):Int)
   rw [h2];push_cast;rfl
theorem preSum_mono {cw:Nat→Nat}:∀{m j:Nat},j≤m→0≤preSum (fun i=>(cw i:Int)) j∧preSum (fun i=>(cw i:Int)) j≤preSum (fun i=>(cw i:Int)) m
 | 0,j,h=>by
  have:j=0:=nt71 h
  subst this;simp [preSum]
 | m+1,j,h=>by
  by_cases q:j=m+1
  ·subst q
   refine⟨?_,Int.le_refl _⟩
   have:=(preSum_mono (cw:=cw) (Nat.le_refl m)).1
   show 0≤preSum (fun i=>(cw i:Int)) m+(cw m:Int)
   exact nt9 this
  ·have:=preSum_mono (cw:=cw) (m:=m) (j:=j) (nt183 h q)
   refine⟨this.1,?_⟩
   show preSum (fun i=>(cw i:Int)) j≤preSum (fun i=>(cw i:Int)) m+(cw m:Int)
   exact nt100 this
theorem wayLong {cw:Nat→Nat} {m d:Nat} (h:preSum (fun i=>(cw i:Int)) m=d) (hd:d≤1000):∀j,j<m→InLong ((cw j:Nat):Int)∧InLong (preSum (fun i=>(cw i:Int)) (j+1)):=fun j hj=>by
 have h1:=preSum_mono (cw:=cw) (m:=m) (j:=j+1) (nt139 hj)
 have h0:=preSum_mono (cw:=cw) (m:=m) (j:=j) (nt146 hj)
 have e:preSum (fun i=>(cw i:Int)) (j+1)=preSum (fun i=>(cw i:Int)) j+(cw j:Int):=rfl
 have two:(2:Int) ^ 63=9223372036854775808:=by decide
 unfold InLong
 rw [two]
 exact nt8 h hd h1 h0 e
theorem Ints.at {vs:List Value} {ks:List Nat} (h:Ints vs ks) {i:Nat} {v:Value} (e:vs[i]?=some v):∃t,v = .int (wayAt ks i:Nat) t:=by
 induction h generalizing i with
 | nil=>exact nomatch e
 | cons h r ih=>
  cases i with
  | zero=>obtain rfl:=Option.some.inj e;exact h
  | succ i=>exact ih e
end
section
set_option tactic.hygienic false
open PySem PySem.W PyProof.Rows
variable [GenI]
section
variable {prog:Program} {w:World} {A:Around} {env:Env} {h:Heap} {X:Value→Heap→Prop} {B:PM} {ms:List (Addr×OP)} {L:Addr} {nms:List Str} {avs:List AV} {pos:Pos} {K:Frag}
theorem zipPath {la:Addr} {oL:Obj} {ys:List Value} {kp:Nat} {z1 z2 z3 z4 z5 z6 z7 z8 z9 z10 z11:Pos} {k1 k2:Nat} {P:Value→Heap→Prop} (O:EnvOk env L nms) (S:St B ((L,FrameO nms avs)::ms) h) (gZip:GName B "zip" (.type "zip")) (hx:nms[kp]?=some ("path" :Str)) (ha:avs[kp]?=some (.val (.ref la))) (hL:B la=some oL) (hli:LiO ys oL) (h1:1≤ys.length) (hz:ys.length≤100)
  (hk:env.kindOf "zip" =some .globalImplicit)
  (k:∀z TI TO i1 i2 l1 l2 B' h',B.le B'→(∃o,B' TI=some o)→(∃o,B' l1=some o)→(∃o,B' l2=some o)→ZipApart z TI TO i1 i2 l1 l2→(zWr z TO i1 i2).Nodup→St B' (wrL (zWr z TO i1 i2)++(L,FrameO nms avs)::ms) h'→zSt z TI TO i1 i2 l1 l2 ys.dropLast.toArray (ys.drop 1).toArray 0 h'→P (.ref z) h'):
  Tr prog w A (eval (.Call (.Name "zip" z1) [.Subscript (.Name "path" z2) (.Slice none (some (.UnaryOp .USub (.Constant (.int 1) k1 z3) z4)) none z5) z6,.Subscript (.Name "path" z7) (.Slice (some (.Constant (.int 1) k2 z8)) none none z9) z10] [] z11) env) h P X:=by
 refine .callName (.g O S gZip hk) (.evCons (.slice (lo:=none) (hi:=some (-1)) (.name O S kp hx ha) S hL hli hz trivial (.neg .cInt) fun D1 o1 h1' hn1 e1 S1=>.evCons (.slice (lo:=some 1) (hi:=none) (.name O S1 kp hx ha) S1 (PM.le_put hn1 _ _ hL) hli hz .cInt trivial fun D2 o2 h2' hn2 e2 S2=>.evNil ⟨.type,?_⟩)))
 have e1':o1 = { cls:= .type "list",data:= .seq ys.dropLast.toArray}:=by rw [e1,slicePick_but _ (by simpa using h1)]
 have e2':o2 = { cls:= .type "list",data:= .seq (ys.drop 1).toArray}:=by
  rw [e2]
  have:=slicePick_from ys.toArray 1 (by simpa using h1)
  rw [show slicePick ys.toArray (some 1) none none=slicePick ys.toArray (some ((1:Nat):Int)) none none from rfl,this]
 have hle1:=PM.le_put (o:=o1) hn1
 have hle2:=PM.le_put (o:=o2) hn2
 refine Tr.zip2 (o1:=o1) (o2:=o2) (xs:=ys.dropLast.toArray) (ys:=(ys.drop 1).toArray) S2 (hle2 _ _ PM.put_self) PM.put_self (by rw [e1'];exact⟨rfl,0,rfl⟩) (by rw [e2'];exact⟨rfl,0,rfl⟩) fun z TI TO i1 i2 B' h' hle hTI D nd S3 hst=>?_
 exact k z TI TO i1 i2 D1 D2 B' h' (PM.le_trans hle1 (PM.le_trans hle2 hle)) hTI ⟨_,hle _ _ (hle2 _ _ PM.put_self)⟩ ⟨_,hle _ _ PM.put_self⟩ D nd S3 hst
end
section
variable {prog:Program} {w:World} {A:Around} {env:Env} {h:Heap} {X:Value→Heap→Prop} {B:PM} {ms:List (Addr×OP)} {L:Addr} {nms:List Str} {avs:List AV} {pos:Pos} {K:Frag}
theorem zWr_all {z TO i1 i2:Addr} {p:Addr→Prop} (h1:p z) (h2:p TO) (h3:p i1) (h4:p i2):∀a∈zWr z TO i1 i2,p a:=fun a ha=>by
 simp only [zWr,List.mem_cons,List.not_mem_nil,or_false] at ha
 rcases ha with rfl | rfl | rfl | rfl <;> assumption
theorem zFp_all {z TI TO i1 i2 l1 l2:Addr} {p:Addr→Prop} (h1:∀a∈zWr z TO i1 i2,p a) (h2:p TI) (h3:p l1) (h4:p l2):∀b∈zFp z TI TO i1 i2 l1 l2,p b:=fun b hb=>by
 have hz:p z∧p TO∧p i1∧p i2:=by simpa [zWr] using h1
 simp only [zFp,List.mem_cons,List.not_mem_nil,or_false] at hb
 rcases hb with rfl | rfl | rfl | rfl | rfl | rfl | rfl
 ·exact hz.1
 ·exact h2
 ·exact hz.2.1
 ·exact hz.2.2.1
 ·exact hz.2.2.2
 ·exact h3
 ·exact h4
theorem sumPairs {dir:Bool} {net dn ad j n s t d:Nat} {l:List (Str×Value)} {ms0:List (Addr×OP)} {E:Nat→Nat→Option (Option Nat)} {la:Addr} {oL:Obj} {ys:List Value} {p:List Nat} {kp c P:Nat} {c1 c2:Addr} {o1 o2:Obj} {scope:Scope} {cl:List (Str×Addr)}
  {p1 p2 pu pv pt:Pos} {kt:Nat} {gp:Pos} {q1 q2 q3 q4 q5 q6 q7 q8 q9:Pos} {z1 z2 z3 z4 z5 z6 z7 z8 z9 z10 z11:Pos} {k1 k2:Nat} {Po:Value→Heap→Prop}
  (Rm:Room A 16 90) (hfin:∀g:Array GenState,GenI.ok g→GenI.ok (g.push .finished)) (O:EnvOk env L nms) (S:St B ((L,FrameO nms avs)::(P,Tab0)::ms0) h) (hcode:env.code = .ref c) (N:NestB B c P)
  (gSum:GName B "sum" (.builtin "sum")) (kSum:env.kindOf "sum" =some .globalImplicit) (gZip:GName B "zip" (.type "zip")) (kZip:env.kindOf "zip" =some .globalImplicit)
  (hx:nms[kp]?=some ("path" :Str)) (ha:avs[kp]?=some (.val (.ref la))) (hL:B la=some oL) (hli:LiO ys oL) (hI:Ints ys p) (hway:Way (WE E) s p t d) (hz:p.length≤50) (hd:d≤1000) (hpn:∀i,i<p.length→wayAt p i<n)
  (item:ItemF K B) (bd:BdF prog w K B) (inst:∃ox,B net=some ox∧PlainO (clsOf dir) dn (fun _=>True) ox) (adj:AdjAt dir l ad) (tab:TabB prog w B ad n E) (hno:getA l "adj" =none) (hlen:l.length≤900) (hat:ms0[j]?=some (dn,InsW l))
  (hco:scope.isCoroutine=false) (hclos:closureFor scope env=pure cl) (hcell:∀y∈scope.names,y.2≠ .cell) (h0:scope.names.lookup (".0" :Str)=some NameKind.local) (hkind:scope.kind = .function) (hloc:(nmE.all fun x=>decide (scope.names.lookup x=some .local))=true)
  (kG:scope.names.lookup ("G" :Str)=some .free) (kW:scope.names.lookup ("weight" :Str)=some .free) (hc1:cl.lookup ("G" :Str)=some c1) (hc2:cl.lookup ("weight" :Str)=some c2) (hb1:B c1=some o1) (hd1:o1.data = .cell (some (.ref net))) (hb2:B c2=some o2) (hd2:o2.data = .cell (some (.ref 966)))
  (k:∀tv B' h' r,B.le B'→(r=(L,FrameO nms avs)::(P,TabG)::ms0∨∃vw,r=(L,FrameO nms avs)::(P,TabG)::ms0.set j (dn,InsW (putA "adj" (.ref vw) l)))→St B' r h'→Po (.int (d:Nat) tv) h')
  (hs:∀x,genFold (.Call (.Name "zip" z1) [.Subscript (.Name "path" z2) (.Slice none (some (.UnaryOp .USub (.Constant (.int 1) k1 z3) z4)) none z5) z6,.Subscript (.Name "path" z7) (.Slice (some (.Constant (.int 1) k2 z8)) none none z9) z10] [] z11) env x=Pure.pure x:=by intro _;rfl):
  TrS prog w A (eval (.Call (.Name "sum" p1) [gexp (.Call (.Name "weight" q1) [.Name "u" q2,.Name "v" q3,.Subscript (.Subscript (.Name "G" q4) (.Name "u" q5) q6) (.Name "v" q7) q8] [] q9)
   (.Call (.Name "zip" z1) [.Subscript (.Name "path" z2) (.Slice none (some (.UnaryOp .USub (.Constant (.int 1) k1 z3) z4)) none z5) z6,.Subscript (.Name "path" z7) (.Slice (some (.Constant (.int 1) k2 z8)) none none z9) z10] [] z11) pu pv pt kt scope gp] [] p2) env) h Po X:=by
 intro g dr tk os Q EE hg hq he
 obtain⟨cw,w1,w2,w3,w4⟩:=hway.weights
 have hyl:=hI.length
 refine wpS.callName1 (f:= .builtin "sum") ((Ev.g O S gSum kSum) g dr tk os _ _ fun v tk1 hv=>⟨hv,.of ?_⟩)
 refine wpAny_GeneratorExp_make hco hclos hcell h0 hkind (by have:=Rm.dp;exact nt118 this) ?_ hs
 refine(zipPath (P:=fun v h'=>∃z TI TO i1 i2 l1 l2 B',v = .ref z∧B.le B'∧(∃o,B' TI=some o)∧(∃o,B' l1=some o)∧(∃o,B' l2=some o)∧ZipApart z TI TO i1 i2 l1 l2∧(zWr z TO i1 i2).Nodup∧St B' (wrL (zWr z TO i1 i2)++(L,FrameO nms avs)::(P,Tab0)::ms0) h'∧zSt z TI TO i1 i2 l1 l2 ys.dropLast.toArray (ys.drop 1).toArray 0 h') (X:=noX) O S gZip hx ha hL hli (nt164 hz w3 hyl) (nt166 hz w3 hyl) kZip
  fun z TI TO i1 i2 l1 l2 B' h' a1 a2 a3 a4 a5 a6 a7 a8=>⟨z,TI,TO,i1,i2,l1,l2,B',rfl,a1,a2,a3,a4,a5,a6,a7,a8⟩) g dr tk1 os _ _ hg (fun xv h1 g1 tk2 hg1 post=>?_) (fun _ _ _ _ _ z=>z.elim)
 obtain⟨z,TI,TO,i1,i2,l1,l2,B1,rfl,hle1,hTI,hl1,hl2,DA,nd,S1,hst⟩:=post
 have lim:∀{B':PM} {ms} {h:Heap},B.le B'→St B' ms h→h.NoLimit:=fun hle S=>by
  obtain⟨o,mc,e,r1,r2⟩:=bd.lim
  exact⟨mc,ns_iff.mpr ⟨o,S.keep _ _ (hle _ _ e),r1⟩,r2⟩
 refine wpAny_pyIter_zip hst.1 ⟨lim hle1 S1,?_⟩
 obtain⟨oP,hoP,eP⟩:=S1.own (P,Tab0) (List.mem_append_right _ (.tail _ (.head _)))
 have eP:oP=tabObj #[]:=eP
 subst eP
 have hd1':CodeHd h1 c P:=(N.le hle1).code h1 S1.keep
 refine wpAny_genexprCodeX hcode (hd1'.code hoP trivial) (hd1'.tab hoP) rfl fun c' h2 tk3 hx2 hge hlt hok2 hrec htb hP2=>?_
 have ndS:=S1.nd
 rw [List.map_append,wrL_fst] at ndS
 have offP:B1 P=none:=S1.off (P,Tab0) (List.mem_append_right _ (.tail _ (.head _)))
 have nB:∀{b},(∃o,B1 b=some o)→b≠P:=fun⟨o,e⟩ q=>by rw [q,offP] at e;contradiction
 have nP:=zFp_all (p:=(·≠P)) (fun a ha=>(List.nodup_append.mp ndS).2.2 a ha P (.tail _ (.head _))) (nB hTI) (nB hl1) (nB hl2)
 have zfr:∀i (ha hb:Heap),zSt z TI TO i1 i2 l1 l2 ys.dropLast.toArray (ys.drop 1).toArray i ha→(∀b∈zFp z TI TO i1 i2 l1 l2,∀o,ha.get? b=some o→hb.get? b=some o)→zSt z TI TO i1 i2 l1 l2 ys.dropLast.toArray (ys.drop 1).toArray i hb:=
  fun i ha hb=>(WalksT.zip2 (prog:=prog) (w:=w) (A:=A) Rm.hh z TI TO i1 i2 l1 l2 DA ys.dropLast.toArray (ys.drop 1).toArray).frame i ha hb
 have S2:St B1 (wrL (zWr z TO i1 i2)++(L,FrameO nms avs)::(P,TabG)::ms0) h2:=S1.updE (i:=5) (P:=Tab0) (P':=TabG) rfl (fun b o hb e=>hx2 b o hb e) htb.2 ⟨_,rfl⟩
 have hst2:=zfr 0 h1 h2 hst fun b hb o e=>hx2 b o (nP b hb) e
 obtain⟨mg,hmain⟩:=(N.le hle1).main
 obtain⟨hgs,bm,om,m1,m2,m3,m4,m5,m6,m7,m8⟩:=hmain h2 S2.keep
 refine wpAny_builtinsFor (by rw [O.glob];exact hgs) m1 m2 m5 m6 m7 m8 fun h3 hn3 hs3=>?_
 obtain⟨oC,hoC,hnoC⟩:=ns_iff.mp hn3
 have keep3:∀b o,h2.get? b=some o→h3.get? b=some o:=fun b o e=>hs3.extBut b o (Nat.ne_of_lt (Heap.lt_size e)) (Heap.get?_push_of_some _ e)
 have S3:St B1 ((h2.objs.size,FrameO nmE [.any,.any])::(wrL (zWr z TO i1 i2)++(L,FrameO nms avs)::(P,TabG)::ms0)) h3:=S2.newM (St.push_none h2) keep3 hoC ⟨_,hnoC,.cons trivial (.cons trivial .nil)⟩ S2.size2
 have hst3:=zfr 0 h2 h3 hst2 fun b hb o e=>keep3 b o e
 generalize hC:h2.objs.size=C at S3 hn3 hs3 hoC
 dsimp only
 generalize hgo:({ cls:= .type "generator",data:= .fields #[.int g1.size 0,.str "<genexpr>" (tk3+1),.str (env.qual++ "<genexpr>") (tk3+1+1)]}:Obj)=oG
 have S4:=S3.pushB (o:=oG) (by rw [←hgo];rfl)
 have hle4:=PM.le_put (o:=oG) (S3.notB_of_none (St.push_none h3))
 have hst4:=zfr 0 h3 (h3.push oG) hst3 fun b hb o e=>Heap.get?_push_of_some _ e
 have hG4:∀hh:Heap,(∀b o,(B1.put h3.objs.size oG) b=some o→hh.get? b=some o)→hh.IsGen h3.objs.size g1.size:=fun hh hk=>by
  rw [←hgo] at hk
  exact⟨_,_,_,hk _ _ PM.put_self,rfl,rfl,rfl⟩
 generalize hB2:B1.put h3.objs.size oG=B2 at S4 hle4 hG4
 have hle2:B.le B2:=PM.le_trans hle1 hle4
 refine⟨.builtin,?_⟩
 let cenv:Env:=genEnv scope cl C (.ref c') builtinsNs env
 have O':EnvOk cenv cenv.locals nmE:=⟨rfl,hkind,hloc,O.glob,rfl⟩
 have hmin:min ys.dropLast.toArray.size (ys.drop 1).toArray.size=p.length - 1:=by
  simp;lia
 have C':SumC prog w K B2 cenv dir net dn ad (j+2) n (p.length - 1) l ((L,FrameO nms avs)::(P,TabG)::ms0) E (wayAt p) cw:=by
  obtain⟨ox,hox,hpl⟩:=inst
  exact⟨O',item.le hle2,bd.le hle2,⟨ox,hle2 _ _ hox,hpl⟩,adj,tab.le hle2,hno,hlen,hat,kG,kW,⟨c1,c2,o1,o2,hc1,hc2,hle2 _ _ hb1,hd1,hle2 _ _ hb2,hd2⟩,fun i hi=>⟨w1 i (by omega),hpn i (by omega)⟩⟩
 have hPt:∀i va vb,i<p.length - 1→(∃x y,ys.dropLast.toArray[i]?=some x∧(ys.drop 1).toArray[i]?=some y∧(#[va,vb]:Array Value) = #[x,y])→(∃t,va = .int (wayAt p i:Nat) t)∧∃t,vb = .int (wayAt p (i+1):Nat) t:=by
  rintro i va vb hi ⟨x,y,e1,e2,e3⟩
  have e4:va=x∧vb=y:=by simpa using e3
  obtain⟨rfl,rfl⟩:=e4
  refine⟨hI.at (i:=i) ?_,hI.at (i:=i+1) ?_⟩
  ·rw [List.getElem?_toArray,List.getElem?_dropLast] at e1
   rw [if_pos (by lia)] at e1
   exact e1
  ·rw [List.getElem?_toArray,List.getElem?_drop] at e2
   rw [Nat.add_comm];exact e2
 let cLoop:Code:= .compLoop (gexp (.Call (.Name "weight" q1) [.Name "u" q2,.Name "v" q3,.Subscript (.Subscript (.Name "G" q4) (.Name "u" q5) q6) (.Name "v" q7) q8] [] q9)
   (.Call (.Name "zip" z1) [.Subscript (.Name "path" z2) (.Slice none (some (.UnaryOp .USub (.Constant (.int 1) k1 z3) z4)) none z5) z6,.Subscript (.Name "path" z7) (.Slice (some (.Constant (.int 1) k2 z8)) none none z9) z10] [] z11) pu pv pt kt scope gp) 0 (.ref z) .none cenv
 have Rm':Room (A.in1.in1.over cLoop []) 14 70:=by
  have e1:(A.in1.in1.over cLoop []).depth≤A.depth+1:=Nat.le_of_eq rfl
  have e2:(A.in1.in1.over cLoop []).units≤A.units+5:=Nat.le_of_eq rfl
  exact⟨Rm.hh,by have:=Rm.dp;lia,by have:=Rm.un;lia⟩
 have helt:=elt_ok (A:=A.in1.in1.over cLoop []) (Pt:=fun i vals=>∃x y,ys.dropLast.toArray[i]?=some x∧(ys.drop 1).toArray[i]?=some y∧vals = #[x,y]) (q1:=q1) (q2:=q2) (q3:=q3) (q4:=q4) (q5:=q5) (q6:=q6) (q7:=q7) (q8:=q8) (q9:=q9) Rm' C' hPt
 have W:∀A':Around,A'.handled=none→WalksU prog w A' z (zFp z TI TO i1 i2 l1 l2) (zWr z TO i1 i2) (p.length - 1) (fun i vals=>∃x y,ys.dropLast.toArray[i]?=some x∧(ys.drop 1).toArray[i]?=some y∧vals = #[x,y]) (zSt z TI TO i1 i2 l1 l2 ys.dropLast.toArray (ys.drop 1).toArray) _:=fun A' hA=>by
  have:=(WalksT.zip2 (prog:=prog) (w:=w) (A:=A') hA z TI TO i1 i2 l1 l2 DA ys.dropLast.toArray (ys.drop 1).toArray).toU
  rw [hmin] at this
  exact this
 have up:∀{b},(∃o,B1 b=some o)→b∈zWr z TO i1 i2∨∃o,B2 b=some o:=fun⟨o,e⟩=>.inr ⟨o,hle4 _ _ e⟩
 have hfp:=zFp_all (p:=fun b=>b∈zWr z TO i1 i2∨∃o,B2 b=some o) (fun a ha=>.inl ha) (up hTI) (up hl1) (up hl2)
 have hatw:∀(i:Nat) (hh:Heap),zSt z TI TO i1 i2 l1 l2 ys.dropLast.toArray (ys.drop 1).toArray i hh→∀a∈zWr z TO i1 i2,∃o,hh.get? a=some o:=fun i hh ⟨s1,s2,⟨_,_,s3⟩,⟨_,s4,_⟩,⟨_,s5,_⟩,_⟩=>zWr_all ⟨_,s1⟩ ⟨_,s3⟩ ⟨_,s4⟩ ⟨_,s5⟩
 have SS:=genSum (prog:=prog) (w:=w) (A:=A) (a:=h3.objs.size) (B:=B2) (C:=C) (S:=(h3.push oG).objs.size) (fp:=zFp z TI TO i1 i2 l1 l2) (wr:=zWr z TO i1 i2) (Ph:=PhA dn ad (j+2) l ((L,FrameO nms avs)::(P,TabG)::ms0)) (St₀:=zSt z TI TO i1 i2 l1 l2 ys.dropLast.toArray (ys.drop 1).toArray)
  (n:=p.length - 1) (F:=fun i v=>∃t,v = .int (cw i:Nat) t) (val:=fun i=>(cw i:Int)) (arr:=g1) (d:=dr) (os:=os) Rm.hh (by have:=Rm.dp;lia) hG4 (bd.lim.le hle2) (fun i v hv=>hv) hfp zfr
 refine callSumS (s:=⟨h3.push oG,_,dr,_,os⟩) (hG4 _ S4.keep) SS (wayLong w2 hd) (fun tk'=>?_) (fun s' t' hf=>?_)
 ·refine⟨_,rfl,rfl,rfl,rfl,⟨B2,_,PM.le_refl _,.inl ⟨rfl,rfl⟩,?_,zfr 0 _ _ hst4 fun b hb o e=>Heap.get?_push_of_some _ e⟩,fun s'' q' hgs hinv=>⟨rfl,rfl,?_⟩⟩
  ·exact((S4.pushM (P:=fun o=>o=accO 0 _ 0) rfl rfl).perm (List.Perm.swap ..))
  ·obtain⟨ob,hob,_⟩:=hinv.own
   exact segS_start (A:=A.in1.in1) Rm.hh O' hco W (by rintro i vals ⟨x,y,_,_,rfl⟩;exact⟨x,y,rfl⟩) hfp hatw helt s'' hgs ⟨ob,hob,hinv.exact hob⟩
 ·obtain⟨f1,f2,f3,q,B',rest,f4,f5,f6⟩:=hf
  rw [w2]
  obtain⟨hh,gg,dd,tt,oo⟩:=s'
  dsimp only at f1 f2 f3 f6
  subst f1 f2 f3
  refine hq _ _ _ _ (hfin _ hg1) (k t' B' hh rest (PM.le_trans hle2 f4) ?_ f6.drop0)
  rcases f5 with⟨_,rfl⟩ | ⟨_,vw,rfl,_⟩
  ·exact .inl rfl
  ·exact .inr ⟨vw,rfl⟩
end
end
section
set_option tactic.hygienic false
open PySem PySem.W PyProof.Rows
variable [GenI]
noncomputable def sAl:Stmt:=topSt 20
noncomputable abbrev nmAl:List Str:=["source","target","heuristic","cutoff","msg","path"]
theorem okAl {L:Addr} {cd:Value}:EnvOk (envC sAl "astar_path_length" L 215 cd) L nmAl:= .ofC (by decide +kernel)
inductive AlAt (B:PM):Prop
 | mk (T D oT v0 v1 nw m) (f1:FnAt B 215 sAl "astar_path_length" (.ref T) (.ref D)) (f2:B T=some oT) (f3:oT.data = .seq #[v0,v1] nw) (f4:Kept B (fun h=>h.Ns D m)) (f5:m "cutoff" =some .none):AlAt B
theorem AlAt.le {B B':PM} (F:AlAt B) (h:B.le B'):AlAt B':=by
 obtain⟨T,D,oT,v0,v1,nw,m,e1,e2,e3,e4,e5⟩:=F
 exact⟨T,D,oT,v0,v1,nw,m,e1.le h,h _ _ e2,e3,e4.le h,e5⟩
theorem alBinds_ok {sh:Shared} {T D net hfa:Addr} {s t:Nat} {ts tt:Tok} {o:Obj} {v0 v1:Value} {n:Nat} {m:Str→Option Value} {x:FX} (ho:sh.heap.get? T=some o) (hs:o.data = .seq #[v0,v1] n) (hD:sh.heap.Ns D m) (hm:m "cutoff" =some .none):
  BindsTo sh (fdOf sAl "astar_path_length" (.ref T) (.ref D) x) ⟨[.ref net,.int (s:Nat) ts,.int (t:Nat) tt,.ref hfa,.ref 966],[]⟩ (asBinds net hfa s t ts tt):=by
 intro M A E Q hq
 have h1:∃k,bindArgs (fdOf sAl "astar_path_length" (.ref T) (.ref D) x) ⟨[.ref net,.int (s:Nat) ts,.int (t:Nat) tt,.ref hfa,.ref 966],[]⟩=seqItems? (.ref T) >>= k∧wpAny M A (k (some #[v0,v1])) Q E sh:=by
  refine⟨_,rfl,?_⟩
  refine wpAny_bind (wpAny_eq (t':=pure [("G",Value.ref net),("source",.int (s:Nat) ts),("target",.int (t:Nat) tt),("heuristic",.ref hfa),("weight",.ref 966)]) (by with_unfolding_all rfl) (wpAny_pure ?_))
  refine wpAny_bind (wpAny_bind (wpAny_bind (nsGet_at hD hm (wpAny_pure ?_))))
  refine wpAny_pure ?_
  exact wpAny_pure hq
 obtain⟨k,e,hk⟩:=h1
 rw [e]
 exact wpAny_bind (wpAny_seqItems ho hs hk)
structure AlF (prog:Program) (w:World) (K:Frag) (B:PM):Prop where
 bd:BdF prog w K B
 item:ItemF K B
 as:AsAt B
 al:AlAt B
 exc:ExcB B "NetworkXNoPath" 108
 nest:NestB B 214 210
 code:∃o fd,B 215=some o∧o.data = .func fd∧fd.code = .ref 214
 gSum:GName B "sum" (.builtin "sum")
 gZip:GName B "zip" (.type "zip")
 gAs:GName B "astar_path" (.ref 206)
section
variable {prog:Program} {w:World} {A:Around} {env:Env} {h:Heap} {X:Value→Heap→Prop} {P:Flow→Heap→Prop} {B:PM} {ms:List (Addr×OP)} {L:Addr} {nms:List Str} {avs:List AV} {pos:Pos} {K:Frag} {sts rest:List Stmt}
theorem CdS.pre (h1:Tr prog w A (execs sts env) h (fun f h'=>(f = .next∧TrS prog w A (execs rest env) h' P X)∨(f≠ .next∧P f h')) X):TrS prog w A (execs (sts++rest) env) h P X:=by
 intro g d tk os Q E hg hq he
 rw [execs_append]
 refine .bindA (h1 g d tk os _ E hg (fun f h' g' tk' hg' r=>?_) he)
 rcases r with⟨rfl,k⟩ | ⟨hf,k⟩
 ·exact k g' d tk' os Q E hg' hq he
 ·cases f <;> first | exact absurd rfl hf | exact .of (wpAny_pure (hq _ _ _ _ hg' k))
theorem St.toW {f:List (Addr×OP)} {j:Nat} {a:Addr} {Q Q':OP} (S:St B (f++ms) h) (hj:ms[j]?=some (a,Q)) (hq:∀o,Q o→Q' o):St B (f++ms.set j (a,Q')) h:=by
 refine S.weakAll (by rw [List.map_append,List.map_append,St.map_set ms j a Q Q' hj]) fun p hp=>?_
 rcases List.mem_append.mp hp with hp | hp
 ·exact S.own p (List.mem_append_left _ hp)
 ·rcases List.mem_or_eq_of_mem_set hp with hp | rfl
  ·exact S.own p (List.mem_append_right _ hp)
  ·obtain⟨o,ho,r⟩:=S.own (a,Q) (List.mem_append_right _ (List.mem_of_getElem? hj))
   exact⟨o,ho,hq o r⟩
theorem al_ok {dir:Bool} {n s t j:Nat} {ts tt:Tok} {net hfa dn:Addr} {E:Nat→Nat→Option (Option Nat)} {hf:Nat→Nat} {l:List (Str×Value)} (Rm:Room A 20 180) (hfin:∀g:Array GenState,GenI.ok g→GenI.ok (g.push .finished))
  (hn:n≤6) (hs:s<n) (ht:t<n) (hw5:∀x y c,E x y=some (some c)→c≤5) (hirr:∀x c,E x x≠some (some c)) (hrng:∀x y o,E x y=some o→x<n∧y<n) (adm:∀x c,Walk (WE E) x t c→hf x≤c) (F:AlF prog w K B) (HB:HeurB prog w hfa n hf B)
  (G:GrB prog w B dir net dn n E l) (hjd:ms[j]?=some (dn,InsD l)) (hno:getA l "adj" =none) (hlen:l.length≤900) (S:St B ((210,Tab0)::ms) h) (hw:∃δ,Walk (WE E) s t δ∧δ≤1000):
  TcS prog w A (.call (.ref 215) ⟨[.ref net,.int (s:Nat) ts,.int (t:Nat) tt,.ref hfa,.ref 966],[]⟩) h
   (fun v h'=>∃d tv B' r,v = .int (d:Nat) tv∧Walk (WE E) s t d∧(∀δ,Walk (WE E) s t δ→d≤δ)∧B.le B'∧(∃q,r=(210,TabG)::ms.set j (dn,q))∧St B' r h') X:=by
 obtain⟨T,D,oT,v0,v1,nw,m,fA,hT,hTd,hD,hm⟩:=F.al
 obtain⟨oF,fdF,hF1,hF2,hF3⟩:=F.code
 refine TcS.callFnCX (d:=19) (u:=177) (XB:=fun _ _=>noX) Rm fA F.bd.lim S (binds:=asBinds net hfa s t ts tt) (fun x s' hs'=>?_)
  nmAl [.int (s:Nat),.int (t:Nat),.val (.ref hfa),.val .none,.any,.any] [("G",0,some (.val (.ref net))),("weight",1,some (.val (.ref 966)))] (fun L x hx=>?_) ?_ (fun L c hc=>?_) (fun c hc=>?_) (by simp) ?_ (fun _ _ _ _ z=>z.elim)
 ·have e1:s'.heap.get? T=some oT:=by rw [hs'];exact S.keep _ _ hT
  have e2:s'.heap.Ns D m:=by rw [hs'];exact hD h S.keep
  exact alBinds_ok e1 hTd e2 hm
 ·simp only [asBinds,List.mem_cons,List.not_mem_nil,or_false] at hx
  rcases hx with rfl | rfl | rfl | rfl | rfl | rfl
  ·exact .inr ⟨by rfl,rfl⟩
  ·exact .inl (by rfl)
  ·exact .inl (by rfl)
  ·exact .inl (by rfl)
  ·exact .inr ⟨by rfl,rfl⟩
  ·exact .inl (by rfl)
 ·exact .cons ⟨_,rfl⟩ (.cons ⟨_,rfl⟩ (.cons rfl (.cons rfl (.cons trivial (.cons trivial .nil)))))
 ·rcases List.mem_cons.mp hc with rfl | hc
  ·rfl
  ·rw [List.mem_singleton.mp hc];rfl
 ·rcases List.mem_cons.mp hc with rfl | hc
  ·rfl
  ·rw [List.mem_singleton.mp hc];rfl
 ·intro L h1 cd hcd R' S1
  obtain⟨oc,fdc,hc1,hc2,hc3⟩:=hcd
  rw [hF1] at hc1;obtain rfl:=Option.some.inj hc1
  rw [hF2] at hc2;obtain rfl:=Data.func.inj hc2
  rw [hF3] at hc3
  subst hc3
  have O:EnvOk (envC sAl "astar_path_length" L 215 (.ref 214)) L nmAl:=okAl
  have S1:St B ((L,FrameO nmAl [.int (s:Nat),.int (t:Nat),.val (.ref hfa),.val .none,.any,.any])::(L+1+0,CellW (some (.val (.ref net))))::(L+1+1,CellW (some (.val (.ref 966))))::(210,Tab0)::ms) h1:=S1
  rw [(List.take_append_drop 3 (fnBody sAl)).symm]
  refine CdS.pre ?_
  have eG:∀{B' avs ms h},St B' ((L,FrameO nmAl avs)::(L+1+0,CellW (some (.val (.ref net))))::ms) h→∀p,Ev prog w (A.deeper (envC sAl "astar_path_length" L 215 (.ref 214))) (envC sAl "astar_path_length" L 215 (.ref 214)) h (.Name "G" p) (.val (.ref net)):=fun S p=>by
   obtain⟨oc,hoc,v,hd,hv⟩:=S.mem (i:=1) rfl
   have hv':v=some (.ref net):=hv
   subst hv'
   exact .cell rfl (by rfl) rfl ⟨_,hoc,hd⟩
  have eW:∀{B' avs ms h x},St B' ((L,FrameO nmAl avs)::(L+1+0,x)::(L+1+1,CellW (some (.val (.ref 966))))::ms) h→∀p,Ev prog w (A.deeper (envC sAl "astar_path_length" L 215 (.ref 214))) (envC sAl "astar_path_length" L 215 (.ref 214)) h (.Name "weight" p) (.val (.ref 966)):=fun S p=>by
   obtain⟨oc,hoc,v,hd,hv⟩:=S.mem (i:=2) rfl
   have hv':v=some (.ref 966):=hv
   subst hv'
   exact .cell rfl (by rfl) rfl ⟨_,hoc,hd⟩
  have hj4:∀{a b c d:Addr×OP},(a::b::c::d::ms)[j+4]?=some (dn,InsD l):=by intros;simpa using hjd
  refine Cd.ifTr (b:=false) (.testOr2 (Tr.inNet (R'.le (by decide) (by decide)) F.bd.inK F.bd.gF G S1 hj4 (.name O S1 0 rfl rfl) (eG S1 _) fun h2 S2=>?_))
  rw [decide_eq_true hs]
  refine Tr.inNet (R'.le (by decide) (by decide)) F.bd.inK F.bd.gF G S2 hj4 (.name O S2 1 rfl rfl) (eG S2 _) fun h3 S3=>?_
  rw [decide_eq_true ht]
  show Tr prog w _ (execs _ _) h3 _ noX
  obtain⟨ow,how,hwc⟩:=F.bd.lwF
  refine Cd.assignCell rfl (by rfl) rfl (.callName (.g O S3 F.bd.gWf) (.evE (eG S3 _) fun v1 hv1=>.evE (eW S3 _) fun v2 hv2=>.evNil ⟨.ofFn S3 F.bd.wf,?_⟩))
  have e1:v1 = .ref net:=hv1
  have e2:v2 = .ref 966:=hv2
  subst e1 e2
  refine(wf_ok (R'.le (by decide) (by decide)) F.bd.wf F.bd.lim F.bd.gCallable S3 how hwc).post fun v h4 ⟨ev,S4⟩=>⟨_,_,2,_,S4,rfl,fun h5 S5=>?_⟩
  subst ev
  have S5:St B ((L,FrameO nmAl [.int (s:Nat),.int (t:Nat),.val (.ref hfa),.val .none,.any,.any])::(L+1+0,CellW (some (.val (.ref net))))::(L+1+1,CellW (some (.val (.ref 966))))::(210,Tab0)::ms) h5:=S5
  obtain⟨Ta,Da,oTa,va0,va1,nwa,ma,fAs,_⟩:=id F.as
  obtain⟨oca,oda,sla,xa,eAs,_⟩:=fAs
  refine Cd.assign O 5 rfl (.callKw1 (.g O S5 F.gAs) (.evE (eG S5 _) fun v1 hv1=>.evE (.name O S5 0 rfl rfl) fun v2 hv2=>.evE (.name O S5 1 rfl rfl) fun v3 hv3=>.evE (.name O S5 2 rfl rfl) fun v4 hv4=>.evE (eW S5 _) fun v5 hv5=>.evNil (.ofEv (.name O S5 3 rfl rfl) fun v6 hv6=>⟨S5.keep _ _ eAs,rfl,?_⟩)))
  obtain⟨t2,rfl⟩:=hv2
  obtain⟨t3,rfl⟩:=hv3
  have e1:v1 = .ref net:=hv1
  have e4:v4 = .ref hfa:=hv4
  have e5:v5 = .ref 966:=hv5
  have e6:v6 = .none:=hv6
  subst e1 e4 e5 e6
  obtain⟨δ,hδ,hδ2⟩:=hw
  refine(as_okW (jd:=j+4) (R'.le (by decide) (by decide)) hn hs ht hw5 hirr adm F.bd HB F.as F.exc (.inr rfl) G hj4 S5 ⟨δ,hδ⟩).tr.post fun v h6 ⟨B1,hle1,S6,la,oL,ys,p,d,ev,hla,hli,hI,hway,hbest,hplen⟩=>⟨B1,_,_,.val (.ref la),S6,ev,fun h7 S7=>?_⟩
  have S7:St B1 ((L,FrameO nmAl [.int (s:Nat),.int (t:Nat),.val (.ref hfa),.val .none,.any,.val (.ref la)])::(L+1+0,CellW (some (.val (.ref net))))::(L+1+1,CellW (some (.val (.ref 966))))::(210,Tab0)::ms) h7:=S7
  refine Cd.nil (.inl ⟨rfl,?_⟩)
  have S8:=S7.perm front2.symm
  obtain⟨o1,ho1,v1',hd1,hv1'⟩:=S8.mem (i:=0) rfl
  obtain⟨o2,ho2,v2',hd2,hv2'⟩:=S8.mem (i:=1) rfl
  have ev1:v1'=some (.ref net):=hv1'
  have ev2:v2'=some (.ref 966):=hv2'
  subst ev1 ev2
  have S9:=S8.freeze0 ho1
  have hle2:=PM.le_put (o:=o1) (S8.off _ (.head _))
  have S10:=S9.freeze0 ho2
  have hle3:=PM.le_put (o:=o2) (S9.off _ (.head _))
  have b1:((B1.put (L+1+0) o1).put (L+1+1) o2) (L+1+0)=some o1:=hle3 _ _ PM.put_self
  have b2:((B1.put (L+1+0) o1).put (L+1+1) o2) (L+1+1)=some o2:=PM.put_self
  have hleA:B1.le ((B1.put (L+1+0) o1).put (L+1+1) o2):=PM.le_trans hle2 hle3
  have hB:B.le ((B1.put (L+1+0) o1).put (L+1+1) o2):=PM.le_trans hle1 hleA
  have S11:St ((B1.put (L+1+0) o1).put (L+1+1) o2) ((L,FrameO nmAl [.int (s:Nat),.int (t:Nat),.val (.ref hfa),.val .none,.any,.val (.ref la)])::(210,Tab0)::ms.set j (dn,InsW l)) h7:=
   St.toW (f:=[(L,FrameO nmAl [.int (s:Nat),.int (t:Nat),.val (.ref hfa),.val .none,.any,.val (.ref la)]),(210,Tab0)]) S10 hjd fun o ho=>.of ho
  have hjW:(ms.set j (dn,InsW l))[j]?=some (dn,InsW l):=by
   obtain⟨hl,_⟩:=List.getElem?_eq_some_iff.mp hjd
   rw [List.getElem?_set_self hl]
  obtain⟨ox,hox,hpl⟩:=G.inst
  obtain⟨ad,ha1,ha2,ha3⟩:=G.adj
  refine CdS.ret (sumPairs (j:=j) (kp:=5) (n:=n) (c:=214) (P:=210) (c1:=L+1+0) (c2:=L+1+1) (R'.le (by decide) (by decide)) hfin O S11 rfl (F.nest.le hB) (F.gSum.le hB) (by rfl) (F.gZip.le hB) (by rfl) rfl rfl (hleA _ _ hla) hli hI hway hplen (Nat.le_trans (hbest δ hδ) hδ2) (fun i hi=>?_)
   (F.item.le hB) (F.bd.le hB) ⟨ox,hB _ _ hox,hpl⟩ ⟨ha1,ha3⟩ (ha2.le hB) hno hlen hjW rfl (by with_unfolding_all rfl) (by decide +kernel) (by rfl) rfl (by decide +kernel) (by rfl) (by rfl) rfl rfl b1 hd1 b2 hd2 fun tv B' h' r hle4 hr S12=>?_)
  ·obtain⟨cw,w1,_,_,w4⟩:=hway.weights
   by_cases q:i+1<p.length
   ·exact(hrng _ _ _ (w1 i q)).1
   ·cases i with
    | zero=>rw [w4];exact hs
    | succ i=>exact(hrng _ _ _ (w1 i (nt114 hi q))).2
  ·rcases hr with rfl | ⟨vw,rfl⟩
   ·exact⟨d,tv,B',_,rfl,hway.walk,hbest,PM.le_trans hB hle4,⟨_,rfl⟩,S12.drop0⟩
   ·rw [List.set_set] at S12
    exact⟨d,tv,B',_,rfl,hway.walk,hbest,PM.le_trans hB hle4,⟨_,rfl⟩,S12.drop0⟩
end
end
section
open PySem PySem.W PyProof.Rows
variable [GenI]
noncomputable abbrev emptyO:Obj:={ cls:= .type "dict",data:= .dict #[]}
noncomputable abbrev isEmptyO:OP:=fun o=>o=emptyO
noncomputable def DictT (prog:Program) (w:World) (kvs:List (Str×Value)):OP:=fun o=>∃es ep,o.ExactDict∧o.data = .dict es ep∧KeysOf (strKind prog w) es∧Pairs (strKind prog w) es.toList kvs∧(kvs.map (·.1)).Nodup
theorem dictT_iff {prog:Program} {w:World} {h:Heap} {a:Addr} {kvs:List (Str×Value)}:h.DictOf (strKind prog w) a kvs ↔ ∃o,h.get? a=some o∧DictT prog w kvs o:=
 ⟨fun⟨o,es,ep,ho,r⟩=>⟨o,ho,es,ep,r⟩,fun⟨o,ho,es,ep,r⟩=>⟨o,es,ep,ho,r⟩⟩
theorem DictT.nil {prog:Program} {w:World}:DictT prog w [] emptyO:=⟨#[],0,⟨rfl,rfl,rfl⟩,rfl,fun e h=>by simp at h,.nil,by simp⟩
theorem DictO.nil {prog:Program} {w:World}:DictO prog w [] emptyO:=⟨#[],0,⟨rfl,rfl,rfl⟩,rfl,fun e h=>by simp at h,.nil,by simp⟩
namespace FD
theorem typeCall0:checkTypeCall "dict" ⟨[],[]⟩=Pure.pure ():=by kernel_rfl
theorem newCall0:checkBuiltinCall "dict.__new__" ⟨[.type "dict"],[]⟩=Pure.pure ():=by kernel_rfl
end FD
section
variable {prog:Program} {w:World} {A:Around} {env:Env} {h:Heap} {X:Value→Heap→Prop} {B:PM} {ms:List (Addr×OP)} {L:Addr} {nms:List Str} {avs:List AV} {pos:Pos} {K:Frag} {rest:List Stmt} {E:Value→Shared→Prop} {s:Shared}
theorem code_dict_new {Q₁:Value→Shared→Prop} (h:Q₁ (.ref s.heap.objs.size) { s with heap:=s.heap.push emptyO}):codeAny (model prog w) A (.call (.builtin "dict.__new__") ⟨[.type "dict"],[]⟩) (wants Q₁ E) s:=by
 refine codeAny_call_builtin PySem.F.kt_plain_dict_new PySem.F.kt_entry_dict_new (wpAny_of_eq FD.newCall0 ?_)
 have hsub:=PySem.F.kt_sub_dict
 have hmro:=PySem.F.kt_mro_dict
 obtain⟨hp,g,d,tk,os⟩:=s
 unfold Builtin.«dict.__new__»
 wp_walk
 exact h
theorem Tr.dictNew {P:Value→Heap→Prop} (hp:P (.ref h.objs.size) (h.push emptyO)):Tr prog w A (call (.type "dict") []) h P X:=by
 intro g d tk os Q E hg hq he
 refine callType_codes (Q₁:=fun obj s₁=>obj = .ref h.objs.size∧s₁=⟨h.push emptyO,g,d,tk,os⟩) PySem.F.kt_called_dict FD.typeCall0 PySem.F.entry_dict_init (code_dict_new ⟨rfl,rfl⟩) ?_
 rintro obj s₁ ⟨rfl,rfl⟩
 have hT:Shared.TypeIs ⟨h.push emptyO,g,d,tk,os⟩ (.ref h.objs.size) "dict" :=⟨_,Heap.get?_push_size _ rfl,rfl⟩
 refine⟨hT,PySem.F.args_dict_init_1 _,?_⟩
 unfold Builtin.«dict.__init__»
 refine wpAny_bind ?_
 unfold Builtin.Dict.selfAndRest
 refine wpAny_bind (wpAny_notOrdered_dict hT ?_)
 show wpAny _ _ (Pure.pure (h.objs.size,([]:List Value))) _ _ _
 refine wpAny_pure ?_
 show wpAny _ _ (Builtin.Dict.addKeywords h.objs.size [] >>= _) _ _ _
 exact wpAny_bind (wpAny_pure (wpAny_pure ⟨rfl,hq _ _ _ _ hg hp⟩))
structure ClsV (K:Frag) (C:Addr) (name:Str) (v:Value):Prop where
 find:findIn K (.ref C) name=some (some v)
 noget:∀(M:Model) (h:Heap),Looks M h (specialOf v "__get__") none
 hand:handedIn v=true
 copied:copiedNames.contains name=false
 has:hasDictIn K C=true
 ty:∀(M:Model) (h:Heap),Looks M h (typeOf v) (.type "type")
theorem looks_valueV {M:Model} {x C:Addr} {ox od:Obj} {name:Str} {v:Value} (X:K.In h) (I:InstAt h x ox C (some od)) (hV:ClsV K C name v) (hl:lookIn name od=some none):Looks M h (Builtin.ObjectAttr.find (.ref x) (.ref C) name) (Builtin.ObjectAttr.Found.value v):=by
 obtain⟨cd,hcd,hd⟩:=any_some hV.has
 have L1:=looks_findIn (M:=M) X hV.find
 have L2:Looks M h (Builtin.ObjectAttr.getOf (some v)) none:=hV.noget M h
 have ho:PySem.W.ownOf cd (some od) name=some none:=by unfold PySem.W.ownOf;rw [if_pos hd];exact hl
 refine L1.andThen (L2.andThen (Looks.now.andThen ((looks_own X I hcd ho).andThen ?_)))
 have G:Looks M h (Builtin.ObjectAttr.copiedAttributeGuard name (.ref x)) ():=by
  unfold Builtin.ObjectAttr.copiedAttributeGuard
  dsimp only
  split
  ·rename_i q2
   have q2:copiedNames.contains name=true:=q2
   rw [hV.copied] at q2;contradiction
  ·exact .now
 exact G.andThen (Looks.tag ((Looks.of_pure (handedOut_of hV.hand)).andThen .now))
theorem get_valueV {x C:Addr} {ox od:Obj} {name:Str} {v:Value} {expr:Bool} {E:Value→Shared→Prop} {s:Shared} {Q:Value→Shared→Prop} (X:K.In s.heap) (I:InstAt s.heap x ox C (some od)) (hga:findIn K (.ref C) "__getattribute__" =some (some (.builtin "object.__getattribute__")))
  (hV:ClsV K C name v) (hl:lookIn name od=some none) (h:Q v { s with toks:=s.toks+1}):wpAny (model prog w) A (getAttr (.ref x) name expr) Q E s:=by
 refine get_open X I hga ?_
 obtain⟨hh',g,d,t,os⟩:=s
 have L0:=I.type (M:=model prog w)
 have L1:=looks_valueV (M:=model prog w) X I hV hl
 refine wpAny_bind (wpAny_pure (wpAny_bind (L0.at (wpAny_bind (L1.at ?_)))))
 refine wpAny_pure ?_
 show wpAny _ _ (handedOut v) _ _ _
 rw [handedOut_of hV.hand];exact wpAny_pure h
theorem Gm.clsV {x C:Addr} {ox od:Obj} {name:Str} {l:List (Str×Value)} {f:Value} (hX:K.In h) (hC:Cls K C) (hV:ClsV K C name f) (I:InstAt h x ox C (some od)) (hl:InsW l od) (hno:l.lookup name=none):Gm prog w h (.ref x) name f []:=by
 intro A g d tk os Q E pl hq
 have L0:=I.type (M:=model prog w)
 have L1:=looks_findIn (M:=model prog w) hX hC.get
 have L2:=looks_findIn (M:=model prog w) hX hC.hook
 have L3:=looks_findIn (M:=model prog w) hX hV.find
 have L4:=hV.ty (model prog w) h
 unfold getMethod
 refine wpAny_bind (wpAny_bind (L0.at (L1.at ?_)))
 dsimp only
 refine wpAny_ite_split (fun q=>absurd q (by decide +kernel)) fun _=>?_
 refine wpAny_bind (wpAny_bind (L0.at (L2.at ?_)))
 refine wpAny_ite_split (fun q=>absurd q (by decide)) fun _=>?_
 refine wpAny_bind (wpAny_bind (L0.at (L3.at ?_)))
 dsimp only
 refine wpAny_bind (L4.at ?_)
 refine wpAny_ite_split (fun _=>?_) fun q=>absurd (by decide +kernel:(((Value.type "type" !=Value.type "function" && Value.type "type" !=Value.type "method_descriptor") && Value.type "type" !=Value.type "wrapper_descriptor")=true)) q
 exact wpAny_bind (get_valueV (s:=⟨h,g,d,tk,os⟩) hX I hC.get hV (by rw [hl.look,hno]) (wpAny_pure (hq _)))
theorem Tr.factory {o:PySem.Expr} {name:Str} {ap p2:Pos} {x C:Addr} {ox od:Obj} {l:List (Str×Value)} {P:Value→Heap→Prop} (ho:Ev prog w A env h o (.val (.ref x))) (hX:K.In h) (hC:Cls K C) (hV:ClsV K C name (.type "dict")) (I:InstAt h x ox C (some od)) (hl:InsW l od) (hno:l.lookup name=none) (hp:P (.ref h.objs.size) (h.push emptyO))
  (hbase:attributeBase o name env (eval o env)=eval o env:=by rfl) (hline:(ap.endLine == p2.line)=true:=by rfl):Tr prog w A (eval (.Call (.Attribute o name ap) [] [] p2) env) h P X:=
 .callMeth ho (.clsV hX hC hV I hl hno) (.evNil ⟨.type,.dictNew hp⟩) hbase (by rfl) hline rfl
end
end
section
set_option tactic.hygienic false
open PySem PySem.W PyProof.Rows
variable [GenI]
section
variable {prog:Program} {w:World} {A:Around} {env:Env} {h:Heap} {X:Value→Heap→Prop} {B:PM} {ms:List (Addr×OP)} {L:Addr} {nms:List Str} {avs:List AV} {pos:Pos} {K:Frag} {rest:List Stmt} {E:Value→Shared→Prop} {s:Shared}
theorem Tr.update {d o:Addr} {kvs more:List (Str×Value)} {oo:Obj} {j:Nat} {P:Value→Heap→Prop} (S:St B ms h) (hj:ms[j]?=some (d,DictT prog w kvs)) (ho:h.get? o=some oo) (hod:DictT prog w more oo) (hne:d≠o) (hoS:(o == sysModules)=false) (hz:kvs.length+more.length≤100)
  (k:∀h',St B (ms.set j (d,DictT prog w (merged kvs more))) h'→P .none h'):Tr prog w A (call (.builtin "dict.update") [.ref d,.ref o]) h P X:=by
 intro g dr tk os Q E hg hq he
 obtain⟨od,hd,hdt⟩:=S.mem hj
 have hD:h.DictOf (strKind prog w) d kvs:=dictT_iff.mpr ⟨od,hd,hdt⟩
 have hO:h.DictOf (strKind prog w) o more:=dictT_iff.mpr ⟨oo,ho,hod⟩
 refine call_meetsIn (s:=⟨h,g,dr,tk,os⟩) PySem.F.slot_dict_update hD.typeIs PySem.F.entry_dict_update (PySem.F.args_dict_update_2 _ _) (meets_dict_update (strKind prog w) d o hne hoS) ⟨kvs,more,hD,hO,by rw [sizeLine_eq];exact nt124 hz,fun h' hd' ho' hs'=>?_⟩
 obtain⟨o',e',dt'⟩:=dictT_iff.mp hd'
 exact hq _ _ _ _ hg (k h' (S.upd hj hs' e' dt'))
theorem Tr.getDflt {a:Addr} {kvs:List (Int×Value)} {i:Int} {t:Tok} {dflt:Value} {j:Nat} {P:Value→Heap→Prop} (S:St B ms h) (hj:ms[j]?=some (a,DictO prog w kvs)) (hn:valueAt kvs i=none) (hp:P dflt h):
  Tr prog w A (call (.builtin "dict.get") [.ref a,.int i t,dflt]) h P X:=by
 intro g dr tk os Q E hg hq he
 obtain⟨od,hd,hdt⟩:=S.mem hj
 have hm:=(dictO_iff.mpr ⟨od,hd,hdt⟩:h.DictOf (intKind prog w) a kvs).mapOf
 refine call_meetsIn (s:=⟨h,g,dr,tk,os⟩) PySem.F.slot_dict_get hm.typeIs PySem.F.entry_dict_get (PySem.F.args_dict_get_3 _ _ _) (meets_dict_get_default (intKind prog w) a (intKind_is _ _ i t) (S.notMods hj) dflt) ⟨_,hm,?_⟩
 rw [hn]
 exact hq _ _ _ _ hg hp
theorem Cd.storeD {o i e:PySem.Expr} {p1:Pos} {P:Flow→Heap→Prop} {a:Addr} {kvs:List (Int×Value)} {k:Int} {v:Value} {j:Nat} (S:St B ms h) (hj:ms[j]?=some (a,DictO prog w kvs)) (he:Ev prog w A env h e (.val v)) (ho:Ev prog w A env h o (.val (.ref a))) (hi:Ev prog w A env h i (.int k)) (hz:kvs.length≤100)
  (hx:∀h2,St B (ms.set j (a,DictO prog w (stored kvs k v))) h2→Tr prog w A (execs rest env) h2 P X)
  (hs:swapsWith e (some (.Subscript o i p1)) pos.line env=Pure.pure false:=by rfl):Tr prog w A (execs (.Assign [.Subscript o i p1] e pos::rest) env) h P X:=by
 intro g d tk os Q E hg hq hE
 refine wpAny_execs_cons (wpAny_Assign_Subscript (he g d tk os _ E fun v' tk1 hv=>ho g d tk1 os _ E fun ov tk2 hov=>hi g d tk2 os _ E fun iv tk3 hiv=>?_) hs)
 have e1:v'=v:=hv
 have e2:ov = .ref a:=hov
 obtain⟨t,rfl⟩:=hiv
 subst e1 e2
 obtain⟨ob,hob,hd⟩:=S.mem hj
 refine wpAny_setItem_pairs (intKind_is _ _ k t) (dictO_iff.mpr ⟨ob,hob,hd⟩) (fun h' hd' hs'=>?_) (by rw [sizeLine_eq];exact nt80 hz)
 obtain⟨o',ho',hd''⟩:=dictO_iff.mp hd'
 exact hx h' (S.upd hj hs' ho' hd'') g d _ os Q E hg hq hE
theorem Tr.lenTup {e:PySem.Expr} {t:Addr} {vs:List Value} {np cp:Pos} (O:EnvOk env L nms) (S:St B ms h) (gl:GName B "len" (.builtin "len")) (hk:env.kindOf "len" =some .globalImplicit) (he:Ev prog w A env h e (.val (.ref t))) (ht:IsTup h t vs.toArray) (hz:vs.length≤100) {P:Value→Heap→Prop} (k:∀t,P (.int (vs.length:Nat) t) h) (hn:StarE [e] env:=by rfl):
  Tr prog w A (eval (.Call (.Name "len" np) [e] [] cp) env) h P X:=by
 refine .callName (.g O S gl hk) (.evE he fun v hv=>.evNil ⟨.builtin,?_⟩) hn
 have hv':v = .ref t:=hv
 subst hv'
 intro g d tk os Q E hg hq he
 refine PyProof.Rows.len_tuple (s:=⟨h,g,d,tk,os⟩) ht (by simp;exact nt79 hz) ?_
 simp only [List.size_toArray]
 exact hq _ _ _ _ hg (k _)
theorem Tr.lenList {e:PySem.Expr} {t:Addr} {xs:Array Value} {np cp:Pos} (O:EnvOk env L nms) (S:St B ms h) (gl:GName B "len" (.builtin "len")) (hk:env.kindOf "len" =some .globalImplicit) (he:Ev prog w A env h e (.val (.ref t))) (ht:h.IsList t xs) (hz:xs.size≤100) {P:Value→Heap→Prop} (k:∀t,P (.int (xs.size:Nat) t) h) (hn:StarE [e] env:=by rfl):
  Tr prog w A (eval (.Call (.Name "len" np) [e] [] cp) env) h P X:=by
 refine .callName (.g O S gl hk) (.evE he fun v hv=>.evNil ⟨.builtin,?_⟩) hn
 have hv':v = .ref t:=hv
 subst hv'
 intro g d tk os Q E hg hq he
 refine PyProof.Rows.len_list (s:=⟨h,g,d,tk,os⟩) ht (by simp;exact nt79 hz) ?_
 exact hq _ _ _ _ hg (k _)
theorem Tc.callFnK {a:Addr} {s:Stmt} {qual:Str} {dV kV:Value} {pos:List Value} {binds:List (Str×Value)} {P:Value→Heap→Prop} {d u:Nat} {at_:Str} (R:Room A (d+1) (u+3)) (F:FnAt B a s qual dV kV) (hl:NoLim B) (S:St B ms h)
  (hb:∀(x:FX) (s':Shared) (M:Model) (A:Around) (E:Value→Shared→Prop) (Q:List (Str×Value)→Shared→Prop),s'.heap=h→Q (binds++[(at_,.ref s'.heap.objs.size)]) { s' with heap:=s'.heap.push emptyO}→wpAny M A (bindArgs (fdOf s qual dV kV x) ⟨pos,[]⟩) Q E s')
  (nms:List Str) (avs:Addr→List AV) (hf:∀da,Fits nms (avs da) (fun x=>(binds++[(at_,Value.ref da)]).reverse.lookup x)) (hloc:∀x∈binds,(fnScope s).names.lookup x.1=some .local) (hloc2:(fnScope s).names.lookup at_=some .local)
  (k:∀L h1 cd A' da,Room A' d u→St B ((L,FrameO nms (avs da))::(da,isEmptyO)::ms) h1→Tr prog w A' (execs (fnBody s) (envF s qual L a cd)) h1 (fun f h2=>P (match f with | .ret v=>v | _=>.none) h2) noX)
  (hcell:∀x∈(fnScope s).names,x.2≠ .cell:=by decide +kernel) (hco:(fnScope s).isCoroutine=false:=by rfl) (hgen:(fnScope s).isGenerator=false:=by rfl) (hk:(fnScope s).kind = .function:=by rfl):
  Tc prog w A (.call (.ref a) ⟨pos,[]⟩) h P X:=by
 intro g dr tk os Q E hg hq he
 obtain⟨oc,od,sl,x,e,c,o,vs,t,e1,e2,e3,e4⟩:=F
 obtain⟨oS,mc,hS,hSn,hSl⟩:=hl
 refine codeAny_call_function (fd:=fdOf s qual dV kV x) (by have:=R.dp;exact nt204 this) (S.keep _ _ e) rfl hco hgen rfl ⟨c,o,vs,t,e1,S.keep _ _ e2,e3,e4⟩ (hb x _ _ _ _ _ rfl ?_)
 have S0:=S.pushM (o:=emptyO) (P:=isEmptyO) rfl
 dsimp only at S0 ⊢
 refine wpAny_newFunctionEnv (s:=⟨h.push emptyO,g,dr,tk,os⟩) hcell (fun y hy=>?_) (fun h1 hns hsb=>?_) hk
 ·rcases List.mem_append.mp hy with hy | hy
  ·exact hloc y hy
  ·rw [List.mem_singleton.mp hy];exact hloc2
 have keep1:∀b ob,(h.push emptyO).get? b=some ob→h1.get? b=some ob:=fun b ob e=>hsb.extBut b ob (Nat.ne_of_lt (Heap.lt_size e)) (Heap.get?_push_of_some _ e)
 have hlim:Heap.NoLimit h1:=⟨mc,ns_iff.mpr ⟨oS,keep1 _ _ (S0.keep _ _ hS),hSn⟩,hSl⟩
 refine⟨hlim,codeAny_func ?_⟩
 obtain⟨oL,hoL,hno⟩:=ns_iff.mp hns
 have S1:=S0.newM (P:=FrameO nms (avs h.objs.size)) (St.push_none _) keep1 hoL ⟨_,hno,hf h.objs.size⟩ S0.size2
 refine k (h.push emptyO).objs.size h1 x.cdv _ h.objs.size R.deeper S1 g dr _ os _ _ hg (fun f h2 g2 tk2 hg2 p=>?_) (fun _ _ _ _ _ q=>q.elim)
 exact hq _ _ _ _ hg2 p
end
end
section
set_option tactic.hygienic false
open PySem PySem.W PyProof.Rows
variable [GenI]
noncomputable def initFn (d:Bool):Addr:=if d then 803 else 592
noncomputable def initSt (d:Bool):Stmt:=if d then clsSt 37 0 else clsSt 35 6
noncomputable def initQ (d:Bool):Str:=if d then "DiGraph.__init__" else "Graph.__init__"
noncomputable abbrev nmI:List Str:=["self","incoming_graph_data","attr"]
theorem okInit {d:Bool} {L:Addr} {cd:Value}:EnvOk (envF (initSt d) (initQ d) L (initFn d) cd) L nmI:=by
 cases d <;> exact .of (by decide +kernel)
noncomputable abbrev factNames:List Str:=["graph_attr_dict_factory","node_dict_factory","adjlist_outer_dict_factory","adjlist_inner_dict_factory","edge_attr_dict_factory","node_attr_dict_factory"]
structure BuildF (K:Frag) (B:PM):Prop where
 inK:InK K B
 gr:GraphF K B
 init:∀d,MethF K (clsOf d) "__init__" (initFn d)
 fInit:∀d,∃T oT nw,FnAt B (initFn d) (initSt d) (initQ d) (.ref T) .none∧B T=some oT∧oT.data = .seq #[.none] nw
 fact:∀d,∀x∈factNames,ClsV K (clsOf d) x (.type "dict")
theorem BuildF.le {K:Frag} {B B':PM} (F:BuildF K B) (h:B.le B'):BuildF K B':=
 ⟨F.inK.le h,F.gr.le h,F.init,fun d=>by obtain⟨T,oT,nw,a,b,c⟩:=F.fInit d;exact⟨T,oT,nw,a.le h,h _ _ b,c⟩,F.fact⟩
noncomputable def instL (dir:Bool) (gd nd ad pd:Addr):List (Str×Value):=if dir then [("graph",.ref gd),("_node",.ref nd),("_adj",.ref ad),("_pred",.ref pd),("_succ",.ref ad)] else [("graph",.ref gd),("_node",.ref nd),("_adj",.ref ad)]
noncomputable def noneM:Nat→Option AV:=fun _=>none
section
variable {prog:Program} {w:World} {A:Around} {env:Env} {h:Heap} {X:Value→Heap→Prop} {B:PM} {ms:List (Addr×OP)} {L:Addr} {nms:List Str} {avs:List AV} {pos:Pos} {K:Frag} {rest:List Stmt}
theorem perm_456 {α:Type} {a b c d e f g:α} {t:List α}:(a::b::c::d::e::f::g::t).Perm (a::b::c::d::g::f::e::t):=by
 refine List.Perm.cons _ (List.Perm.cons _ (List.Perm.cons _ (List.Perm.cons _ ?_)))
 have:([e,f,g]++t).Perm ([g,f,e]++t):=List.Perm.append_right t (List.reverse_perm [e,f,g]).symm
 exact this
theorem perm_4567 {α:Type} {a b c d e f g i:α} {t:List α}:(a::b::c::d::e::f::g::i::t).Perm (a::b::c::d::i::g::f::e::t):=by
 refine List.Perm.cons _ (List.Perm.cons _ (List.Perm.cons _ (List.Perm.cons _ ?_)))
 have:([e,f,g,i]++t).Perm ([i,g,f,e]++t):=List.Perm.append_right t (List.reverse_perm [e,f,g,i]).symm
 exact this
theorem Cd.fact {x C dx:Addr} {name fac:Str} {l:List (Str×Value)} {sl:Array (Option Value)→Prop} {Q:OP} {p1 p2 p3 p4 p5 ap:Pos} {P:Flow→Heap→Prop} {da:Addr} (O:EnvOk env L nmI) (hK:InK K B) (hC:Cls K C) (hV:ClsV K C fac (.type "dict")) (hO:OwnF K C name)
  (S:St B ((L,FrameO nmI [.val (.ref x),.val .none,.val (.ref da)])::(da,isEmptyO)::(x,PlainO C dx sl)::(dx,InsD l)::ms) h) (hno:l.lookup fac=none) (hlen:l.length<900) (hQ:Q emptyO)
  (k:∀a h',St B ((L,FrameO nmI [.val (.ref x),.val .none,.val (.ref da)])::(da,isEmptyO)::(x,PlainO C dx sl)::(dx,InsD (putA name (.ref a) l))::(a,Q)::ms) h'→Tr prog w A (execs rest env) h' P X)
  (hbase:attributeBase (.Name "self" p2) fac env (eval (.Name "self" p2) env)=eval (.Name "self" p2) env:=by rfl) (hline:(ap.endLine == p3.line)=true:=by rfl)
  (hs:swapsWith (.Call (.Attribute (.Name "self" p2) fac ap) [] [] p3) (some (.Attribute (.Name "self" p4) name p5)) p1.line env=Pure.pure false:=by rfl):
  Tr prog w A (execs (.Assign [.Attribute (.Name "self" p4) name p5] (.Call (.Attribute (.Name "self" p2) fac ap) [] [] p3) p1::rest) env) h P X:=by
 obtain⟨ox,hox,c1,c2,c3,_⟩:=S.mem (i:=2) rfl
 obtain⟨od,hod,hil⟩:=S.mem (i:=3) rfl
 have I:=instAt hox c1 c2 c3 hod
 refine Cd.attrD (K:=K) (x:=x) (C:=C) (dx:=dx) (l:=l) (L:=L) (nms:=nmI) (Tr.factory (.name O S 0 rfl rfl) (hK.in S) hC hV I (.of hil) hno ?_ hbase hline) hs
 have S1:=S.pushM (o:=emptyO) (P:=Q) hQ
 generalize ha:h.objs.size=a at S1
 have S2:St B ((L,FrameO nmI [.val (.ref x),.val .none,.val (.ref da)])::(da,isEmptyO)::(x,PlainO C dx sl)::(dx,InsD l)::(a,Q)::ms) (h.push emptyO):=S1.perm (by
  exact(List.perm_middle (l₁:=[(L,FrameO nmI [.val (.ref x),.val .none,.val (.ref da)]),(da,isEmptyO),(x,PlainO C dx sl),(dx,InsD l)])))
 obtain⟨ox2,hox2,hpl2⟩:=S2.mem (i:=2) rfl
 exact⟨B,_,_,2,sl,S2,rfl,⟨ox2,hox2,hpl2⟩,hK,hC,hO,hlen,.name O S2 0 rfl rfl,fun h2 S3=>k a h2 S3⟩
inductive IniP (prog:Program) (w:World) (dir:Bool) (B:PM) (x dx:Addr) (n:Nat) (sl:Array (Option Value)→Prop) (ms:List (Addr×OP)) (v:Value) (h':Heap):Prop
 | mk (e:v = .none) (gd nd ad pd:Addr) (S:St B ((x,PlainO (clsOf dir) dx sl)::(dx,InsD (instL dir gd nd ad pd))::(nd,MapO prog w n noneM)::(ad,MapO prog w n noneM)::((if dir then [(pd,MapO prog w n noneM)] else [])++ms)) h')
theorem ginit_ok {dir:Bool} {x dx:Addr} {n:Nat} {sl:Array (Option Value)→Prop} (R:Room A 4 20) (F:BuildF K B) (S:St B ((x,PlainO (clsOf dir) dx sl)::(dx,InsD [])::ms) h):
  Tc prog w A (.call (.ref (initFn dir)) ⟨[.ref x],[]⟩) h (IniP prog w dir B x dx n sl ms) noX:=by
 obtain⟨T,oT,nw,fI,hT,hTd⟩:=F.fInit dir
 refine Tc.callFnK (d:=3) (u:=17) (at_:= "attr") (binds:=[("self",.ref x),("incoming_graph_data",.none)]) R fI F.gr.lim S (fun x' s' M A E Q hs' hq=>?_) nmI (fun da=>[.val (.ref x),.val .none,.val (.ref da)]) (fun da=>.cons rfl (.cons rfl (.cons rfl .nil))) (fun y hy=>?_) (by cases dir <;> rfl) ?_ (by cases dir <;> decide +kernel) (by cases dir <;> rfl) (by cases dir <;> rfl) (by cases dir <;> rfl)
 ·have e1:s'.heap.get? T=some oT:=by rw [hs'];exact S.keep _ _ hT
  have h1:∃k,bindArgs (fdOf (initSt dir) (initQ dir) (.ref T) .none x') ⟨[.ref x],[]⟩=seqItems? (.ref T) >>= k∧wpAny M A (k (some #[.none])) Q E s':=by
   cases dir with
   | false=>
    refine⟨_,rfl,wpAny_eq (t':=alloc emptyO >>= fun d=>Pure.pure ([("self",Value.ref x),("incoming_graph_data",.none),("attr",.ref d)]:List (Str×Value))) (by with_unfolding_all rfl) (wpAny_bind (wpAny_alloc (wpAny_pure hq)))⟩
   | true=>
    refine⟨_,rfl,wpAny_eq (t':=alloc emptyO >>= fun d=>Pure.pure ([("self",Value.ref x),("incoming_graph_data",.none),("attr",.ref d)]:List (Str×Value))) (by with_unfolding_all rfl) (wpAny_bind (wpAny_alloc (wpAny_pure hq)))⟩
  obtain⟨k,e,hk⟩:=h1
  rw [e]
  exact wpAny_bind (wpAny_seqItems e1 hTd hk)
 ·have:y.1∈(["self","incoming_graph_data"]:List Str):=List.mem_map_of_mem (f:=(·.1)) hy
  cases dir
  ·exact(by decide +kernel:∀y∈(["self","incoming_graph_data"]:List Str),(fnScope (initSt false)).names.lookup y=some .local) _ this
  ·exact(by decide +kernel:∀y∈(["self","incoming_graph_data"]:List Str),(fnScope (initSt true)).names.lookup y=some .local) _ this
 ·intro L h1 cd A' da R' S1
  have O:EnvOk (envF (initSt dir) (initQ dir) L (initFn dir) cd) L nmI:=okInit
  have own:=F.gr.own dir
  have fact:=F.fact dir
  have S1:St B ((L,FrameO nmI [.val (.ref x),.val .none,.val (.ref da)])::(da,isEmptyO)::(x,PlainO (clsOf dir) dx sl)::(dx,InsD [])::ms) h1:=S1
  have I:∀{l ms' h},St B ((L,FrameO nmI [.val (.ref x),.val .none,.val (.ref da)])::(da,isEmptyO)::(x,PlainO (clsOf dir) dx sl)::(dx,InsD l)::ms') h→∃ox od,InstAt h x ox (clsOf dir) (some od)∧InsD l od∧h.get? x=some ox∧PlainO (clsOf dir) dx sl ox:=fun S=>by
   obtain⟨ox,hox,c1,c2,c3,c4⟩:=S.mem (i:=2) rfl
   obtain⟨od,hod,hil⟩:=S.mem (i:=3) rfl
   exact⟨ox,od,instAt hox c1 c2 c3 hod,hil,hox,c1,c2,c3,c4⟩
  have last:∀{gd:Addr} {l:List (Str×Value)} {ms':List (Addr×OP)} {h2:Heap} {e:Value→Heap→Prop} {p1 p2 p3 p4 p5 p6:Pos},St B ((L,FrameO nmI [.val (.ref x),.val .none,.val (.ref da)])::(da,isEmptyO)::(x,PlainO (clsOf dir) dx sl)::(dx,InsD l)::(gd,DictT prog w [])::ms') h2→getA l "graph" =some (.ref gd)→
    (∀h3,St B ((x,PlainO (clsOf dir) dx sl)::(dx,InsD l)::ms') h3→e .none h3)→attributeBase (.Attribute (.Name "self" p1) "graph" p2) "update" (envF (initSt dir) (initQ dir) L (initFn dir) cd) (eval (.Attribute (.Name "self" p1) "graph" p2) (envF (initSt dir) (initQ dir) L (initFn dir) cd))=eval (.Attribute (.Name "self" p1) "graph" p2) (envF (initSt dir) (initQ dir) L (initFn dir) cd)→
    (p3.endLine == p5.line)=true→swapsWith (.Call (.Attribute (.Attribute (.Name "self" p1) "graph" p2) "update" p3) [.Name "attr" p4] [] p5) none p6.line (envF (initSt dir) (initQ dir) L (initFn dir) cd)=Pure.pure false→interactive (envF (initSt dir) (initQ dir) L (initFn dir) cd)=false→
    Tr prog w A' (execs [.Expr (.Call (.Attribute (.Attribute (.Name "self" p1) "graph" p2) "update" p3) [.Name "attr" p4] [] p5) p6] (envF (initSt dir) (initQ dir) L (initFn dir) cd)) h2 (fun f=>e (match f with | .ret v=>v | _=>.none)) noX:=fun {gd l ms' h2 e p1 p2 p3 p4 p5 p6} S2 hg ke hba hli hsw hin=>by
   obtain⟨ox,od,I2,hil,_⟩:=I S2
   obtain⟨ogd,hogd,hgt⟩:=S2.mem (i:=4) rfl
   have hgD:h2.DictOf (strKind prog w) gd []:=dictT_iff.mpr ⟨ogd,hogd,hgt⟩
   obtain⟨oda,hoda,eda⟩:=S2.mem (i:=1) rfl
   have eda:oda=emptyO:=eda
   subst eda
   refine Cd.expr (.callMeth (ov:= .ref gd) (.attr (.name O S2 0 rfl rfl) (.own (F.inK.in S2) (F.gr.cls dir) (own _ (by simp)) I2 hil hg rfl)) (.builtin (fun g d tk os=>hgD.typeIs (s:=⟨h2,g,d,tk,os⟩)) PySem.F.plainAttrs_dict PySem.F.slot_dict_update PySem.F.type_dict_update fun a e=>⟨ogd,by obtain rfl:=Value.ref.inj e;exact hogd,by obtain⟨_,_,hx,_⟩:=hgt;exact hx.2.1⟩)
    (.evE (.name O S2 2 rfl rfl) fun v hv=>.evNil ⟨.builtin,?_⟩) hba (by rfl) hli rfl) hin hsw
   have hv':v = .ref da:=hv
   subst hv'
   refine Tr.update (j:=4) S2 rfl hoda DictT.nil (S2.ne (i:=4) (j:=1) rfl rfl) (S2.notMods (i:=1) rfl) (by simp) fun h3 S3=>Cd.nil (ke h3 ?_)
   have S3:St B ((L,FrameO nmI [.val (.ref x),.val .none,.val (.ref da)])::(da,isEmptyO)::(x,PlainO (clsOf dir) dx sl)::(dx,InsD l)::(gd,DictT prog w (merged [] []))::ms') h3:=S3
   exact S3.dropTo _ (List.Sublist.cons _ (List.Sublist.cons _ (List.Sublist.cons_cons _ (List.Sublist.cons_cons _ (List.sublist_cons_self _ _)))))
  cases dir with
  | false=>
   refine Cd.fact (Q:=DictT prog w []) O F.inK (F.gr.cls false) (fact _ (by simp)) (own _ (by simp)) S1 rfl (Nat.le_of_ble_eq_true rfl) DictT.nil fun gd h2 S2=>?_
   refine Cd.fact (Q:=MapO prog w n noneM) O F.inK (F.gr.cls false) (fact _ (by simp)) (own _ (by simp)) S2 rfl (Nat.le_of_ble_eq_true rfl) MapO.nil fun nd h3 S3=>?_
   refine Cd.fact (Q:=MapO prog w n noneM) O F.inK (F.gr.cls false) (fact _ (by simp)) (own _ (by simp)) S3 rfl (Nat.le_of_ble_eq_true rfl) MapO.nil fun ad h4 S4=>?_
   refine Cd.ifF (.cmp (.name O S4 1 rfl rfl) .cNone .isNotNone) ?_
   have S4:St B ((L,FrameO nmI [.val (.ref x),.val .none,.val (.ref da)])::(da,isEmptyO)::(x,PlainO (clsOf false) dx sl)::(dx,InsD (instL false gd nd ad ad))::(ad,MapO prog w n noneM)::(nd,MapO prog w n noneM)::(gd,DictT prog w [])::ms) h4:=S4
   have S5:=S4.perm (ms':=(L,FrameO nmI [.val (.ref x),.val .none,.val (.ref da)])::(da,isEmptyO)::(x,PlainO (clsOf false) dx sl)::(dx,InsD (instL false gd nd ad ad))::(gd,DictT prog w [])::(nd,MapO prog w n noneM)::(ad,MapO prog w n noneM)::ms) (perm_456)
   exact last S5 rfl (fun h5 S6=>⟨rfl,gd,nd,ad,ad,S6⟩) rfl rfl rfl rfl
  | true=>
   refine Cd.fact (Q:=DictT prog w []) O F.inK (F.gr.cls true) (fact _ (by simp)) (own _ (by simp)) S1 rfl (Nat.le_of_ble_eq_true rfl) DictT.nil fun gd h2 S2=>?_
   refine Cd.fact (Q:=MapO prog w n noneM) O F.inK (F.gr.cls true) (fact _ (by simp)) (own _ (by simp)) S2 rfl (Nat.le_of_ble_eq_true rfl) MapO.nil fun nd h3 S3=>?_
   refine Cd.fact (Q:=MapO prog w n noneM) O F.inK (F.gr.cls true) (fact _ (by simp)) (own _ (by simp)) S3 rfl (Nat.le_of_ble_eq_true rfl) MapO.nil fun ad h4 S4=>?_
   refine Cd.fact (Q:=MapO prog w n noneM) O F.inK (F.gr.cls true) (fact _ (by simp)) (own _ (by simp)) S4 rfl (Nat.le_of_ble_eq_true rfl) MapO.nil fun pd h5 S5=>?_
   obtain⟨ox,od,I5,hil5,hox5,hpl5⟩:=I S5
   refine Cd.attrD (K:=K) (x:=x) (C:=clsOf true) (dx:=dx) (L:=L) (nms:=nmI) (.ofEv (.attr (.name O S5 0 rfl rfl) (.own (F.inK.in S5) (F.gr.cls true) (own _ (by simp)) I5 hil5 rfl rfl)) fun v hv=>⟨B,_,_,2,sl,S5,rfl,⟨ox,hox5,hpl5⟩,F.inK,F.gr.cls true,own _ (by simp),Nat.le_of_ble_eq_true rfl,.name O S5 0 rfl rfl,fun h6 S6=>?_⟩)
   have hv':v = .ref ad:=hv
   subst hv'
   have S6:St B ((L,FrameO nmI [.val (.ref x),.val .none,.val (.ref da)])::(da,isEmptyO)::(x,PlainO (clsOf true) dx sl)::(dx,InsD (instL true gd nd ad pd))::(pd,MapO prog w n noneM)::(ad,MapO prog w n noneM)::(nd,MapO prog w n noneM)::(gd,DictT prog w [])::ms) h6:=S6
   refine Cd.ifF (.cmp (.name O S6 1 rfl rfl) .cNone .isNotNone) ?_
   have S7:=S6.perm (ms':=(L,FrameO nmI [.val (.ref x),.val .none,.val (.ref da)])::(da,isEmptyO)::(x,PlainO (clsOf true) dx sl)::(dx,InsD (instL true gd nd ad pd))::(gd,DictT prog w [])::(nd,MapO prog w n noneM)::(ad,MapO prog w n noneM)::(pd,MapO prog w n noneM)::ms) perm_4567
   exact last S7 rfl (fun h5 S6=>⟨rfl,gd,nd,ad,pd,S6⟩) rfl rfl rfl rfl
end
end
section
set_option tactic.hygienic false
open PySem PySem.W PyProof.Rows
variable [GenI]
section
variable {prog:Program} {w:World} {A:Around} {env:Env} {h:Heap} {X:Value→Heap→Prop} {B:PM} {ms:List (Addr×OP)} {L:Addr} {nms:List Str} {avs:List AV} {pos:Pos} {K:Frag} {rest:List Stmt}
inductive GmP (prog:Program) (w:World) (dir:Bool) (B:PM) (n:Nat) (ms:List (Addr×OP)) (v:Value) (h':Heap):Prop
 | mk (net dn gd nd ad pd:Addr) (B':PM) (ev:v = .ref net) (hle:B.le B') (hox:∃ox,B' net=some ox∧PlainO (clsOf dir) dn (fun _=>True) ox)
   (S:St B' ((dn,InsD (instL dir gd nd ad pd))::(nd,MapO prog w n noneM)::(ad,MapO prog w n noneM)::((if dir then [(pd,MapO prog w n noneM)] else [])++ms)) h')
theorem gmake_ok {dir:Bool} {n:Nat} (R:Room A 6 30) (F:BuildF K B) (S:St B ms h):
  Tr prog w A (call (.ref (clsOf dir)) []) h (GmP prog w dir B n ms) X:=
 Tc.tr (Tc.make (d:=5) (u:=26) R F.inK (F.gr.cls dir) (F.init dir) S fun x dx h1 A' R' S1=>by
  have t:=ginit_ok (n:=n) (prog:=prog) (w:=w) (dir:=dir) (K:=K) (R'.le (by decide) (by decide)) F S1
  intro g d tk os Q E hg hq he
  refine t g d tk os Q E hg (fun v h' g' tk' hg' ⟨e1,gd,nd,ad,pd,S2⟩=>hq v h' g' tk' hg' ⟨e1,?_⟩) (fun _ _ _ _ _ z=>z.elim)
  obtain⟨ox,hox,hpl⟩:=S2.mem (i:=0) rfl
  have hle:=PM.le_put (o:=ox) (S2.off _ (.head _))
  exact⟨x,dx,gd,nd,ad,pd,_,rfl,hle,⟨ox,PM.put_self,hpl.1,hpl.2.1,hpl.2.2.1,trivial⟩,S2.freeze0 hox⟩)
theorem MapO.mono {n:Nat} {f g:Nat→Option AV} {o:Obj} (hm:MapO prog w n f o) (hfg:∀k v,avOk (f k) v→avOk (g k) v):MapO prog w n g o:=by
 obtain⟨kvs,hd,hb,hf⟩:=hm
 exact⟨kvs,hd,hb,fun k=>hfg k _ (hf k)⟩
theorem Cd.factStore {x C dn a0 j j0 n k:Nat} {name fac y:Str} {l:List (Str×Value)} {f:Nat→Option AV} {Q:OP} {p1 p2 p3 p4 p5 p6 p7 ap:Pos} {P:Flow→Heap→Prop} {ox:Obj} {iy i0:Nat} (O:EnvOk env L nms) (hK:InK K B) (hC:Cls K C) (hV:ClsV K C fac (.type "dict")) (hO:OwnF K C name)
  (S:St B ((L,FrameO nms avs)::ms) h) (hx0:nms[i0]?=some ("self" :Str)) (ha0:avs[i0]?=some (.val (.ref x))) (hy:nms[iy]?=some y) (hay:avs[iy]?=some (.int (k:Nat))) (hox:B x=some ox) (hpl:PlainO C dn (fun _=>True) ox) (hj:ms[j]?=some (dn,InsD l)) (hj0:ms[j0]?=some (a0,MapO prog w n f)) (hno:l.lookup fac=none) (hl:l.lookup name=some (.ref a0)) (hQ:Q emptyO) (hk:k<n) (hn:n≤6)
  (kk:∀a h',St B ((L,FrameO nms avs)::(a,Q)::ms.set j0 (a0,MapO prog w n fun i=>if i=k then some (.val (.ref a))else f i)) h'→Tr prog w A (execs rest env) h' P X)
  (hyd:(y == ("__debug__" :Str))=false:=by decide) (hbase:attributeBase (.Name "self" p2) fac env (eval (.Name "self" p2) env)=eval (.Name "self" p2) env:=by rfl) (hline:(ap.endLine == p3.line)=true:=by rfl)
  (hs:swapsWith (.Call (.Attribute (.Name "self" p2) fac ap) [] [] p3) (some (.Subscript (.Attribute (.Name "self" p4) name p5) (.Name y p6) p7)) p1.line env=Pure.pure false:=by rfl)
  (he:eval (.Attribute (.Name "self" p4) name p5) env=(do
   let o' ←eval (.Name "self" p4) env
   standAt p5.atName
   let r ←holding [o'] (getAttr o' name true)
   letTemporaryGo (.Name "self" p4) o' r
   Pure.pure r):=by with_unfolding_all rfl):
  Tr prog w A (execs (.Assign [.Subscript (.Attribute (.Name "self" p4) name p5) (.Name y p6) p7] (.Call (.Attribute (.Name "self" p2) fac ap) [] [] p3) p1::rest) env) h P X:=by
 obtain⟨od,hod,hil⟩:=S.mem (i:=j+1) (by rw [List.getElem?_cons_succ];exact hj)
 have I:=instAt (S.keep _ _ hox) hpl.1 hpl.2.1 hpl.2.2.1 hod
 refine Cd.storeMT (Tr.factory (.name O S i0 hx0 ha0) (hK.in S) hC hV I (.of hil) hno ?_ hbase hline) hs
 have S1:=S.pushM (o:=emptyO) (P:=Q) hQ
 generalize h.objs.size=a at S1
 have S2:St B ((L,FrameO nms avs)::(a,Q)::ms) (h.push emptyO):=S1.perm (List.Perm.swap ..)
 obtain⟨od2,hod2,hil2⟩:=S2.mem (i:=j+2) (by rw [List.getElem?_cons_succ,List.getElem?_cons_succ];exact hj)
 have I2:=instAt (S2.keep _ _ hox) hpl.1 hpl.2.1 hpl.2.2.1 hod2
 refine⟨B,_,n,k,j0+2,f,a0,.val (.ref a),S2,by rw [List.getElem?_cons_succ,List.getElem?_cons_succ];exact hj0,rfl,.attr (.name O S2 i0 hx0 ha0) (.own (hK.in S2) hC hO I2 hil2 hl rfl) he,.name O S2 iy hy hay (by nofun) hyd,hk,hn,fun h2 S3=>kk a h2 ?_⟩
 exact S3
end
end
section
set_option tactic.hygienic false
open PySem PySem.W PyProof.Rows
variable [GenI]
noncomputable def updF {α:Type} (r:Nat→α) (i:Nat) (a:α):Nat→α:=fun k=>if k=i then a else r k
noncomputable def rowsA (r:Nat→Addr) (i:Nat):Nat→Option AV:=fun k=>if k<i then some (.val (.ref (r k)))else none
noncomputable def nodesA (i:Nat):Nat→Option AV:=fun k=>if k<i then some .any else none
noncomputable def dnL {α:Type} (f:Nat→α):Nat→List α
 | 0=>[]
 | i+1=>f i::dnL f i
section
variable {α:Type} {f f':Nat→α} {n k:Nat} {y:α}
theorem dnL_succ:dnL f (n+1)=f n::dnL f n:=rfl
theorem dnL_congr (h:∀k<n,f k=f' k):dnL f n=dnL f' n:=by
 induction n with
 | zero=>rfl
 | succ n ih=>rw [dnL_succ,dnL_succ,h n (Nat.lt_succ_self n),ih fun k hk=>h k (Nat.lt_succ_of_lt hk)]
theorem dnL_get (h:k<n):(dnL f n)[n - 1 - k]?=some (f k):=by
 induction n with
 | zero=>exact absurd h (Nat.not_lt_zero _)
 | succ n ih=>
  by_cases q:k=n
  ·rw [q,nt49];rfl
  ·have e:=nt133 h q
   rw [e,dnL_succ,List.getElem?_cons_succ]
   exact ih (nt131 h e)
theorem dnL_len:(dnL f n).length=n:=by
 induction n with
 | zero=>rfl
 | succ n ih=>exact congrArg (· +1) ih
theorem dnL_set (h:k<n):(dnL f n).set (n - 1 - k) y=dnL (fun j=>if j=k then y else f j) n:=by
 induction n with
 | zero=>exact absurd h (Nat.not_lt_zero _)
 | succ n ih=>
  rw [dnL_succ,dnL_succ]
  by_cases q:k=n
  ·rw [q,nt49,List.set_cons_zero,if_pos rfl]
   exact congrArg _ (dnL_congr fun j hj=>(if_neg (Nat.ne_of_lt hj)).symm)
  ·have e:=nt133 h q
   rw [e,List.set_cons_succ,ih (nt131 h e),if_neg (Ne.symm q)]
end
noncomputable def rowL (prog:Program) (w:World) (r:Nat→Addr) (kv:Nat→List (Int×Value)) (i:Nat):List (Addr×OP):=dnL (fun k=>(r k,DictO prog w (kv k))) i
theorem rowL_congr {prog:Program} {w:World} {r r':Nat→Addr} {kv kv':Nat→List (Int×Value)} {i:Nat} (h:∀k<i,r k=r' k∧kv k=kv' k):rowL prog w r kv i=rowL prog w r' kv' i:=
 dnL_congr fun k hk=>by rw [(h k hk).1,(h k hk).2]
theorem rowL_succ {prog:Program} {w:World} {r:Nat→Addr} {kv:Nat→List (Int×Value)} {i:Nat} {a:Addr}:rowL prog w (updF r i a) kv (i+1)=(a,DictO prog w (kv i))::rowL prog w r kv i:=by
 show(updF r i a i,_)::rowL prog w (updF r i a) kv i=_
 rw [show updF r i a i=a from if_pos rfl,rowL_congr (r:=updF r i a) (r':=r) (kv:=kv) (kv':=kv) fun k hk=>⟨if_neg (nt152 hk),rfl⟩]
theorem rowsA_succ {r:Nat→Addr} {i:Nat} {a:Addr}:(fun k=>if k=i then some (AV.val (.ref a))else rowsA r i k)=rowsA (updF r i a) (i+1):=by
 funext k
 unfold rowsA updF
 by_cases q:k=i
 ·subst q;simp
 ·by_cases q2:k<i
  ·have:k<i+1:=nt140 q2
   simp [q,q2,this]
  ·have:¬k<i+1:=nt197 q q2
   simp [q,q2,this]
theorem nodesA_succ {prog:Program} {w:World} {n i:Nat} {b:Addr} {o:Obj} (h:MapO prog w n (fun k=>if k=i then some (AV.val (.ref b))else nodesA i k) o):MapO prog w n (nodesA (i+1)) o:=
 h.mono fun k v hv=>by
  unfold nodesA at *
  by_cases q:k=i
  ·subst q
   rw [if_pos rfl] at hv
   rw [if_pos nt65]
   obtain⟨x,e,_⟩:=hv
   exact⟨x,e,trivial⟩
  ·rw [if_neg q] at hv
   by_cases q2:k<i
   ·rw [if_pos q2] at hv;rw [if_pos (nt140 q2)];exact hv
   ·rw [if_neg q2] at hv;rw [if_neg (nt197 q q2)];exact hv
noncomputable def gFr (prog:Program) (w:World) (dir:Bool) (n dn:Nat) (l:List (Str×Value)) (nd ad pd i:Nat) (r:Nat→Addr) (kv:Nat→List (Int×Value)) (q:Nat→Addr) (qv:Nat→List (Int×Value)):List (Addr×OP):=
 (dn,InsD l)::(nd,MapO prog w n (nodesA i))::(ad,MapO prog w n (rowsA r i))::((if dir then [(pd,MapO prog w n (rowsA q i))] else [])++(rowL prog w r kv i++(if dir then rowL prog w q qv i else [])))
noncomputable def addnFn (d:Bool):Addr:=if d then 847 else 644
noncomputable def addnSt (d:Bool):Stmt:=if d then clsSt 37 5 else clsSt 35 13
noncomputable def addnQ (d:Bool):Str:=if d then "DiGraph.add_nodes_from" else "Graph.add_nodes_from"
noncomputable abbrev nmN:List Str:=["self","nodes_for_adding","attr","n","newnode","newdict"]
theorem okAddn {d:Bool} {L:Addr} {cd:Value}:EnvOk (envF (addnSt d) (addnQ d) L (addnFn d) cd) L nmN:=by
 cases d <;> exact .of (by decide +kernel)
section
variable {prog:Program} {w:World} {A:Around} {env:Env} {h:Heap} {X:Value→Heap→Prop} {B:PM} {ms:List (Addr×OP)} {L:Addr} {nms:List Str} {avs:List AV} {pos:Pos} {K:Frag} {rest:List Stmt}
noncomputable abbrev noKv:Nat→List (Int×Value):=fun _=>[]
inductive AnJ (prog:Program) (w:World) (dir:Bool) (B:PM) (net dn gd nd ad pd n rng da i:Nat) (B':PM) (front:List (Addr×OP)) (avs:List AV):Prop
 | mk (e:B=B') (a3 a4 a5:AV) (r q:Nat→Addr) (ea:avs = [.val (.ref net),.val (.ref rng),.val (.ref da),a3,a4,a5]) (ef:front=(da,isEmptyO)::gFr prog w dir n dn (instL dir gd nd ad pd) nd ad pd i r noKv q noKv)
theorem AnJ.le {prog:Program} {w:World} {dir:Bool} {B:PM} {net dn gd nd ad pd n rng da i:Nat} {B':PM} {front:List (Addr×OP)} {avs:List AV} (j:AnJ prog w dir B net dn gd nd ad pd n rng da i B' front avs):B.le B':=by
 obtain⟨rfl⟩:=j
 exact PM.le_refl _
inductive AnP (prog:Program) (w:World) (dir:Bool) (B:PM) (dn gd nd ad pd n:Nat) (tail:List (Addr×OP)) (v:Value) (h':Heap):Prop
 | mk (e:v = .none) (r q:Nat→Addr) (S:St B (gFr prog w dir n dn (instL dir gd nd ad pd) nd ad pd n r noKv q noKv++tail) h')
theorem addn_ok {dir:Bool} {net dn gd nd ad pd n rng:Nat} {t u v:Tok} {ox oR:Obj} {tail:List (Addr×OP)} (R:Room A 4 20) (F:BuildF K B) (fN:FnAt B (addnFn dir) (addnSt dir) (addnQ dir) .none .none) (hn:n≤6) (hox:B net=some ox) (hpl:PlainO (clsOf dir) dn (fun _=>True) ox) (hR:B rng=some oR) (eR:oR = { cls:= .type "range",dict:=none,data:= .fields #[.int 0 t,.int (n:Nat) u,.int 1 v],slots:= #[]})
  (S:St B (gFr prog w dir n dn (instL dir gd nd ad pd) nd ad pd 0 (fun _=>0) noKv (fun _=>0) noKv++tail) h):
  Tc prog w A (.call (.ref (addnFn dir)) ⟨[.ref net,.ref rng],[]⟩) h (AnP prog w dir B dn gd nd ad pd n tail) noX:=by
 refine Tc.callFnK (d:=3) (u:=17) (at_:= "attr") (binds:=[("self",.ref net),("nodes_for_adding",.ref rng)]) R fN F.gr.lim S (fun x' s' M A E Q hs' hq=>?_) nmN (fun da=>[.val (.ref net),.val (.ref rng),.val (.ref da),.any,.any,.any]) (fun da=>.cons rfl (.cons rfl (.cons rfl (.cons trivial (.cons trivial (.cons trivial .nil)))))) (fun y hy=>?_) (by cases dir <;> rfl) ?_ (by cases dir <;> decide +kernel) (by cases dir <;> rfl) (by cases dir <;> rfl) (by cases dir <;> rfl)
 ·refine wpAny_eq (t':=alloc emptyO >>= fun d=>Pure.pure ([("self",Value.ref net),("nodes_for_adding",.ref rng),("attr",.ref d)]:List (Str×Value))) (by cases dir <;> with_unfolding_all rfl) (wpAny_bind (wpAny_alloc (wpAny_pure hq)))
 ·have:y.1∈(["self","nodes_for_adding"]:List Str):=List.mem_map_of_mem (f:=(·.1)) hy
  cases dir
  ·exact(by decide +kernel:∀y∈(["self","nodes_for_adding"]:List Str),(fnScope (addnSt false)).names.lookup y=some .local) _ this
  ·exact(by decide +kernel:∀y∈(["self","nodes_for_adding"]:List Str),(fnScope (addnSt true)).names.lookup y=some .local) _ this
 ·intro L h1 cd A' da R' S1
  have O:EnvOk (envF (addnSt dir) (addnQ dir) L (addnFn dir) cd) L nmN:=okAddn
  have own:=F.gr.own dir
  have fact:=F.fact dir
  cases dir with
  | false=>
   refine Cd.for_ (nms:=nmN) (tail:=tail) R'.hh n (fun i v _=>∃t,v = .int (i:Nat) t) (AnJ prog w false B net dn gd nd ad pd n rng da)
    (.ofEv (.name O S1 1 rfl rfl) fun v hv=>⟨B,_,_,S1,⟨rfl,_,_,_,_,_,rfl,rfl⟩,?_,fun i B' fr av hJ=>hJ.le⟩) ?_ ?_
   ·have hv':v = .ref rng:=hv
    subst hv' eR
    exact Turns.range (S1.keep _ _ hR) (by omega) S1.size2
   ·rintro i v I Q PP B' front avs h2 hi ⟨tv,rfl⟩ ⟨rfl,a3,a4,a5,r,q,rfl,rfl⟩ S2
    refine Tr.asgName O S2 3 rfl (av:= .int (i:Nat)) ⟨tv,rfl⟩ fun h3 S3=>?_
    have S3:St B ((L,FrameO nmN [.val (.ref net),.val (.ref rng),.val (.ref da),.int (i:Nat),a4,a5])::((da,isEmptyO)::gFr prog w false n dn (instL false gd nd ad pd) nd ad pd i r noKv q noKv++(I,Q)::tail)) h3:=S3
    obtain⟨od,hod,hil⟩:=S3.mem (i:=2) rfl
    obtain⟨oN,hoN,mN⟩:=S3.mem (i:=3) rfl
    have I3:=instAt (S3.keep _ _ hox) hpl.1 hpl.2.1 hpl.2.2.1 hod
    refine Cd.tryNext (Cd.assignE O S3 4 rfl (av:= .val (.bool true)) (.bEq (.cmp (.name O S3 3 rfl rfl) (.attr (.name O S3 0 rfl rfl) (.own (F.inK.in S3) (F.gr.cls false) (own _ (by simp)) I3 hil rfl rfl)) (.notInM (k:=i) hoN mN (S3.notMods (i:=3) rfl))) (by simp [nodesA])) fun h4 S4=>?_)
    have S4:St B ((L,FrameO nmN [.val (.ref net),.val (.ref rng),.val (.ref da),.int (i:Nat),.val (.bool true),a5])::((da,isEmptyO)::gFr prog w false n dn (instL false gd nd ad pd) nd ad pd i r noKv q noKv++(I,Q)::tail)) h4:=S4
    refine Cd.assignE O S4 5 rfl (av:= .val (.ref da)) (.name O S4 2 rfl rfl) fun h5 S5=>Cd.nil ⟨rfl,?_⟩
    have S5:St B ((L,FrameO nmN [.val (.ref net),.val (.ref rng),.val (.ref da),.int (i:Nat),.val (.bool true),.val (.ref da)])::((da,isEmptyO)::gFr prog w false n dn (instL false gd nd ad pd) nd ad pd i r noKv q noKv++(I,Q)::tail)) h5:=S5
    refine Cd.ifT (.val (.name O S5 4 rfl rfl)) ?_
    refine Cd.ifF (.cmp (.name O S5 3 rfl rfl) .cNone .isNone) ?_
    refine Cd.factStore (C:=clsOf false) (dn:=dn) (j:=1) (j0:=3) (n:=n) (k:=i) (iy:=3) (i0:=0) (Q:=DictO prog w []) O F.inK (F.gr.cls false) (fact _ (by simp)) (own _ (by simp)) S5 rfl rfl rfl rfl hox hpl rfl rfl rfl rfl DictO.nil hi hn fun a h6 S6=>?_
    have S6:St B ((L,FrameO nmN [.val (.ref net),.val (.ref rng),.val (.ref da),.int (i:Nat),.val (.bool true),.val (.ref da)])::(a,DictO prog w [])::(da,isEmptyO)::(dn,InsD (instL false gd nd ad pd))::(nd,MapO prog w n (nodesA i))::(ad,MapO prog w n (fun k=>if k=i then some (.val (.ref a))else rowsA r i k))::(([]++(rowL prog w r noKv i++[]))++(I,Q)::tail)) h6:=S6
    refine Cd.factStore (C:=clsOf false) (dn:=dn) (j:=2) (j0:=3) (n:=n) (k:=i) (iy:=3) (i0:=0) (Q:=DictT prog w []) O F.inK (F.gr.cls false) (fact _ (by simp)) (own _ (by simp)) S6 rfl rfl rfl rfl hox hpl rfl rfl rfl rfl DictT.nil hi hn fun b h7 S7=>?_
    have S7:St B ((L,FrameO nmN [.val (.ref net),.val (.ref rng),.val (.ref da),.int (i:Nat),.val (.bool true),.val (.ref da)])::(b,DictT prog w [])::(a,DictO prog w [])::(da,isEmptyO)::(dn,InsD (instL false gd nd ad pd))::(nd,MapO prog w n (fun k=>if k=i then some (.val (.ref b))else nodesA i k))::(ad,MapO prog w n (fun k=>if k=i then some (.val (.ref a))else rowsA r i k))::(([]++(rowL prog w r noKv i++[]))++(I,Q)::tail)) h7:=S7
    obtain⟨od7,hod7,hil7⟩:=S7.mem (i:=4) rfl
    obtain⟨oN7,hoN7,mN7⟩:=S7.mem (i:=5) rfl
    obtain⟨ob7,hob7,hbt7⟩:=S7.mem (i:=1) rfl
    obtain⟨oda,hoda,eda⟩:=S7.mem (i:=3) rfl
    have eda:oda=emptyO:=eda
    subst eda
    have hbD:h7.DictOf (strKind prog w) b []:=dictT_iff.mpr ⟨ob7,hob7,hbt7⟩
    have I7:=instAt (S7.keep _ _ hox) hpl.1 hpl.2.1 hpl.2.2.1 hod7
    refine Cd.expr (.callMeth (ov:= .ref b) (.subM (k:=i) (.attr (.name O S7 0 rfl rfl) (.own (F.inK.in S7) (F.gr.cls false) (own _ (by simp)) I7 hil7 rfl rfl)) (.name O S7 3 rfl rfl) hoN7 mN7 (if_pos rfl)) (.builtin (fun g d tk os=>hbD.typeIs (s:=⟨h7,g,d,tk,os⟩)) PySem.F.plainAttrs_dict PySem.F.slot_dict_update PySem.F.type_dict_update fun a e=>⟨ob7,by obtain rfl:=Value.ref.inj e;exact hob7,by obtain⟨_,_,hx,_⟩:=hbt7;exact hx.2.1⟩)
     (.evE (.name O S7 5 rfl rfl) fun v hv=>.evNil ⟨.builtin,?_⟩))
    have hv':v = .ref da:=hv
    subst hv'
    refine Tr.update (j:=1) S7 rfl hoda DictT.nil (S7.ne (i:=1) (j:=3) rfl rfl) (S7.notMods (i:=3) rfl) (by simp) fun h8 S8=>Cd.nil ?_
    have S8:St B ((L,FrameO nmN [.val (.ref net),.val (.ref rng),.val (.ref da),.int (i:Nat),.val (.bool true),.val (.ref da)])::(b,DictT prog w (merged [] []))::(a,DictO prog w [])::(da,isEmptyO)::(dn,InsD (instL false gd nd ad pd))::(nd,MapO prog w n (fun k=>if k=i then some (.val (.ref b))else nodesA i k))::(ad,MapO prog w n (fun k=>if k=i then some (.val (.ref a))else rowsA r i k))::(([]++(rowL prog w r noKv i++[]))++(I,Q)::tail)) h8:=S8
    have S9:=(S8.dropTo ((L,FrameO nmN [.val (.ref net),.val (.ref rng),.val (.ref da),.int (i:Nat),.val (.bool true),.val (.ref da)])::(a,DictO prog w [])::(da,isEmptyO)::(dn,InsD (instL false gd nd ad pd))::(nd,MapO prog w n (fun k=>if k=i then some (.val (.ref b))else nodesA i k))::(ad,MapO prog w n (fun k=>if k=i then some (.val (.ref a))else rowsA r i k))::(([]++(rowL prog w r noKv i++[]))++(I,Q)::tail)) (List.Sublist.cons_cons _ (List.sublist_cons_self _ _)))
    rw [rowsA_succ] at S9
    have S10:=S9.weakI (i:=4) rfl fun o=>nodesA_succ
    refine⟨B,_,_,S10.perm (ms':=(L,FrameO nmN [.val (.ref net),.val (.ref rng),.val (.ref da),.int (i:Nat),.val (.bool true),.val (.ref da)])::((da,isEmptyO)::gFr prog w false n dn (instL false gd nd ad pd) nd ad pd (i+1) (updF r i a) noKv q noKv++(I,Q)::tail)) ?_,rfl,_,_,_,updF r i a,q,rfl,rfl⟩
    refine List.Perm.cons _ ?_
    unfold gFr
    rw [rowL_succ]
    exact(List.perm_middle (l₁:=[(da,isEmptyO),(dn,InsD (instL false gd nd ad pd)),(nd,MapO prog w n (nodesA (i+1))),(ad,MapO prog w n (rowsA (updF r i a) (i+1)))]))
   ·rintro B' front avs h2 ⟨rfl,a3,a4,a5,r,q,rfl,rfl⟩ S2
    exact Cd.nil ⟨rfl,r,q,S2.drop0.drop0⟩
  | true=>
   refine Cd.for_ (nms:=nmN) (tail:=tail) R'.hh n (fun i v _=>∃t,v = .int (i:Nat) t) (AnJ prog w true B net dn gd nd ad pd n rng da)
    (.ofEv (.name O S1 1 rfl rfl) fun v hv=>⟨B,_,_,S1,⟨rfl,_,_,_,_,_,rfl,rfl⟩,?_,fun i B' fr av hJ=>hJ.le⟩) ?_ ?_
   ·have hv':v = .ref rng:=hv
    subst hv' eR
    exact Turns.range (S1.keep _ _ hR) (by omega) S1.size2
   ·rintro i v I Q PP B' front avs h2 hi ⟨tv,rfl⟩ ⟨rfl,a3,a4,a5,r,q,rfl,rfl⟩ S2
    refine Tr.asgName O S2 3 rfl (av:= .int (i:Nat)) ⟨tv,rfl⟩ fun h3 S3=>?_
    have S3:St B ((L,FrameO nmN [.val (.ref net),.val (.ref rng),.val (.ref da),.int (i:Nat),a4,a5])::((da,isEmptyO)::gFr prog w true n dn (instL true gd nd ad pd) nd ad pd i r noKv q noKv++(I,Q)::tail)) h3:=S3
    obtain⟨od,hod,hil⟩:=S3.mem (i:=2) rfl
    obtain⟨oN,hoN,mN⟩:=S3.mem (i:=3) rfl
    have I3:=instAt (S3.keep _ _ hox) hpl.1 hpl.2.1 hpl.2.2.1 hod
    refine Cd.tryNext (Cd.assignE O S3 4 rfl (av:= .val (.bool true)) (.bEq (.cmp (.name O S3 3 rfl rfl) (.attr (.name O S3 0 rfl rfl) (.own (F.inK.in S3) (F.gr.cls true) (own _ (by simp)) I3 hil rfl rfl)) (.notInM (k:=i) hoN mN (S3.notMods (i:=3) rfl))) (by simp [nodesA])) fun h4 S4=>?_)
    have S4:St B ((L,FrameO nmN [.val (.ref net),.val (.ref rng),.val (.ref da),.int (i:Nat),.val (.bool true),a5])::((da,isEmptyO)::gFr prog w true n dn (instL true gd nd ad pd) nd ad pd i r noKv q noKv++(I,Q)::tail)) h4:=S4
    refine Cd.assignE O S4 5 rfl (av:= .val (.ref da)) (.name O S4 2 rfl rfl) fun h5 S5=>Cd.nil ⟨rfl,?_⟩
    have S5:St B ((L,FrameO nmN [.val (.ref net),.val (.ref rng),.val (.ref da),.int (i:Nat),.val (.bool true),.val (.ref da)])::((da,isEmptyO)::gFr prog w true n dn (instL true gd nd ad pd) nd ad pd i r noKv q noKv++(I,Q)::tail)) h5:=S5
    refine Cd.ifT (.val (.name O S5 4 rfl rfl)) ?_
    refine Cd.ifF (.cmp (.name O S5 3 rfl rfl) .cNone .isNone) ?_
    refine Cd.factStore (C:=clsOf true) (dn:=dn) (j:=1) (j0:=3) (n:=n) (k:=i) (iy:=3) (i0:=0) (Q:=DictO prog w []) O F.inK (F.gr.cls true) (fact _ (by simp)) (own _ (by simp)) S5 rfl rfl rfl rfl hox hpl rfl rfl rfl rfl DictO.nil hi hn fun a h6 S6=>?_
    have S6:St B ((L,FrameO nmN [.val (.ref net),.val (.ref rng),.val (.ref da),.int (i:Nat),.val (.bool true),.val (.ref da)])::(a,DictO prog w [])::(da,isEmptyO)::(dn,InsD (instL true gd nd ad pd))::(nd,MapO prog w n (nodesA i))::(ad,MapO prog w n (fun k=>if k=i then some (.val (.ref a))else rowsA r i k))::(pd,MapO prog w n (rowsA q i))::((rowL prog w r noKv i++rowL prog w q noKv i)++(I,Q)::tail)) h6:=S6
    refine Cd.factStore (C:=clsOf true) (dn:=dn) (j:=2) (j0:=5) (n:=n) (k:=i) (iy:=3) (i0:=0) (Q:=DictO prog w []) O F.inK (F.gr.cls true) (fact _ (by simp)) (own _ (by simp)) S6 rfl rfl rfl rfl hox hpl rfl rfl rfl rfl DictO.nil hi hn fun p h6 S6=>?_
    have S6:St B ((L,FrameO nmN [.val (.ref net),.val (.ref rng),.val (.ref da),.int (i:Nat),.val (.bool true),.val (.ref da)])::(p,DictO prog w [])::(a,DictO prog w [])::(da,isEmptyO)::(dn,InsD (instL true gd nd ad pd))::(nd,MapO prog w n (nodesA i))::(ad,MapO prog w n (fun k=>if k=i then some (.val (.ref a))else rowsA r i k))::(pd,MapO prog w n (fun k=>if k=i then some (.val (.ref p))else rowsA q i k))::((rowL prog w r noKv i++rowL prog w q noKv i)++(I,Q)::tail)) h6:=S6
    refine Cd.factStore (C:=clsOf true) (dn:=dn) (j:=3) (j0:=4) (n:=n) (k:=i) (iy:=3) (i0:=0) (Q:=DictT prog w []) O F.inK (F.gr.cls true) (fact _ (by simp)) (own _ (by simp)) S6 rfl rfl rfl rfl hox hpl rfl rfl rfl rfl DictT.nil hi hn fun b h7 S7=>?_
    have S7:St B ((L,FrameO nmN [.val (.ref net),.val (.ref rng),.val (.ref da),.int (i:Nat),.val (.bool true),.val (.ref da)])::(b,DictT prog w [])::(p,DictO prog w [])::(a,DictO prog w [])::(da,isEmptyO)::(dn,InsD (instL true gd nd ad pd))::(nd,MapO prog w n (fun k=>if k=i then some (.val (.ref b))else nodesA i k))::(ad,MapO prog w n (fun k=>if k=i then some (.val (.ref a))else rowsA r i k))::(pd,MapO prog w n (fun k=>if k=i then some (.val (.ref p))else rowsA q i k))::((rowL prog w r noKv i++rowL prog w q noKv i)++(I,Q)::tail)) h7:=S7
    obtain⟨od7,hod7,hil7⟩:=S7.mem (i:=5) rfl
    obtain⟨oN7,hoN7,mN7⟩:=S7.mem (i:=6) rfl
    obtain⟨ob7,hob7,hbt7⟩:=S7.mem (i:=1) rfl
    obtain⟨oda,hoda,eda⟩:=S7.mem (i:=4) rfl
    have eda:oda=emptyO:=eda
    subst eda
    have hbD:h7.DictOf (strKind prog w) b []:=dictT_iff.mpr ⟨ob7,hob7,hbt7⟩
    have I7:=instAt (S7.keep _ _ hox) hpl.1 hpl.2.1 hpl.2.2.1 hod7
    refine Cd.expr (.callMeth (ov:= .ref b) (.subM (k:=i) (.attr (.name O S7 0 rfl rfl) (.own (F.inK.in S7) (F.gr.cls true) (own _ (by simp)) I7 hil7 rfl rfl)) (.name O S7 3 rfl rfl) hoN7 mN7 (if_pos rfl)) (.builtin (fun g d tk os=>hbD.typeIs (s:=⟨h7,g,d,tk,os⟩)) PySem.F.plainAttrs_dict PySem.F.slot_dict_update PySem.F.type_dict_update fun a e=>⟨ob7,by obtain rfl:=Value.ref.inj e;exact hob7,by obtain⟨_,_,hx,_⟩:=hbt7;exact hx.2.1⟩)
     (.evE (.name O S7 5 rfl rfl) fun v hv=>.evNil ⟨.builtin,?_⟩))
    have hv':v = .ref da:=hv
    subst hv'
    refine Tr.update (j:=1) S7 rfl hoda DictT.nil (S7.ne (i:=1) (j:=4) rfl rfl) (S7.notMods (i:=4) rfl) (by simp) fun h8 S8=>Cd.nil ?_
    have S8:St B ((L,FrameO nmN [.val (.ref net),.val (.ref rng),.val (.ref da),.int (i:Nat),.val (.bool true),.val (.ref da)])::(b,DictT prog w (merged [] []))::(p,DictO prog w [])::(a,DictO prog w [])::(da,isEmptyO)::(dn,InsD (instL true gd nd ad pd))::(nd,MapO prog w n (fun k=>if k=i then some (.val (.ref b))else nodesA i k))::(ad,MapO prog w n (fun k=>if k=i then some (.val (.ref a))else rowsA r i k))::(pd,MapO prog w n (fun k=>if k=i then some (.val (.ref p))else rowsA q i k))::((rowL prog w r noKv i++rowL prog w q noKv i)++(I,Q)::tail)) h8:=S8
    have S9:=S8.dropTo ((L,FrameO nmN [.val (.ref net),.val (.ref rng),.val (.ref da),.int (i:Nat),.val (.bool true),.val (.ref da)])::(p,DictO prog w [])::(a,DictO prog w [])::(da,isEmptyO)::(dn,InsD (instL true gd nd ad pd))::(nd,MapO prog w n (fun k=>if k=i then some (.val (.ref b))else nodesA i k))::(ad,MapO prog w n (fun k=>if k=i then some (.val (.ref a))else rowsA r i k))::(pd,MapO prog w n (fun k=>if k=i then some (.val (.ref p))else rowsA q i k))::((rowL prog w r noKv i++rowL prog w q noKv i)++(I,Q)::tail)) (List.Sublist.cons_cons _ (List.sublist_cons_self _ _))
    rw [rowsA_succ,rowsA_succ] at S9
    have S10:=S9.weakI (i:=5) rfl fun o=>nodesA_succ
    refine⟨B,_,_,S10.perm (ms':=(L,FrameO nmN [.val (.ref net),.val (.ref rng),.val (.ref da),.int (i:Nat),.val (.bool true),.val (.ref da)])::((da,isEmptyO)::gFr prog w true n dn (instL true gd nd ad pd) nd ad pd (i+1) (updF r i a) noKv (updF q i p) noKv++(I,Q)::tail)) ?_,rfl,_,_,_,updF r i a,updF q i p,rfl,rfl⟩
    refine List.Perm.cons _ ?_
    unfold gFr
    rw [rowL_succ,rowL_succ]
    show([(da,isEmptyO),(dn,InsD (instL true gd nd ad pd)),(nd,MapO prog w n (nodesA (i+1))),(ad,MapO prog w n (rowsA (updF r i a) (i+1))),(pd,MapO prog w n (rowsA (updF q i p) (i+1)))]++(a,DictO prog w [])::((rowL prog w r noKv i++(p,DictO prog w [])::rowL prog w q noKv i)++(I,Q)::tail)).Perm _
    refine List.perm_middle.trans ?_
    refine List.Perm.trans (l₂:=(a,DictO prog w [])::(p,DictO prog w [])::([(da,isEmptyO),(dn,InsD (instL true gd nd ad pd)),(nd,MapO prog w n (nodesA (i+1))),(ad,MapO prog w n (rowsA (updF r i a) (i+1))),(pd,MapO prog w n (rowsA (updF q i p) (i+1)))]++((rowL prog w r noKv i++rowL prog w q noKv i)++(I,Q)::tail))) (List.Perm.cons _ ?_) (List.Perm.swap ..)
    rw [List.append_assoc (rowL prog w r noKv i),←List.append_assoc _ (rowL prog w r noKv i)]
    refine List.Perm.trans (List.perm_middle (l₁:=[(da,isEmptyO),(dn,InsD (instL true gd nd ad pd)),(nd,MapO prog w n (nodesA (i+1))),(ad,MapO prog w n (rowsA (updF r i a) (i+1))),(pd,MapO prog w n (rowsA (updF q i p) (i+1)))]++rowL prog w r noKv i)) ?_
    refine List.Perm.cons _ ?_
    rw [List.append_assoc _ (rowL prog w r noKv i),List.append_assoc (rowL prog w r noKv i)]
    exact List.Perm.refl _
   ·rintro B' front avs h2 ⟨rfl,a3,a4,a5,r,q,rfl,rfl⟩ S2
    exact Cd.nil ⟨rfl,r,q,S2.drop0.drop0⟩
end
end
section
set_option tactic.hygienic false
open PySem PySem.W PyProof.Rows
variable [GenI]
section
variable {prog:Program} {w:World} {B B':PM}
structure RowK (prog:Program) (w:World) (B:PM) (n:Nat) (e:Nat→Option (Option Nat)) (kvs:List (Int×Value)):Prop where
 sound:∀p∈kvs,∃k:Nat,k<n∧p.1=k∧∃oc da od,e k=some oc∧p.2 = .ref da∧B da=some od∧DataO prog w oc od∧(da == sysModules)=false
 full:∀k:Nat,(e k).isSome=true→∃p∈kvs,p.1=k
theorem RowK.le {n e kvs} (r:RowK prog w B n e kvs) (h:B.le B'):RowK prog w B' n e kvs:=by
 refine⟨fun p hp=>?_,r.full⟩
 obtain⟨k,hk,e1,oc,da,od,e2,e3,e4,rr⟩:=r.sound p hp
 exact⟨k,hk,e1,oc,da,od,e2,e3,h _ _ e4,rr⟩
theorem RowK.nil {n}:RowK prog w B n (fun _=>none) []:=⟨fun p hp=>absurd hp List.not_mem_nil,fun k h=>by contradiction⟩
theorem RowK.absent {n e kvs} {k:Nat} (r:RowK prog w B n e kvs) (he:e k=none):valueAt kvs (k:Int)=none:=by
 unfold valueAt
 rw [Option.map_eq_none_iff,List.find?_eq_none]
 intro p hp q
 have q':p.1=(k:Int):=by simpa using q
 obtain⟨k',hk',e1,oc,da,od,e2,_⟩:=r.sound p hp
 have:k'=k:=by rw [q'] at e1;exact(Int.ofNat.inj e1).symm
 subst this
 rw [he] at e2;contradiction
theorem stored_new {kvs:List (Int×Value)} {k:Int} {v:Value} (h:valueAt kvs k=none):stored kvs k v=kvs++[(k,v)]:=by
 unfold stored
 have:(kvs.any fun kv=>kv.1=k)=false:=by
  rw [List.any_eq_false]
  intro p hp q
  unfold valueAt at h
  rw [Option.map_eq_none_iff,List.find?_eq_none] at h
  exact h p hp (by simpa using q)
 rw [this];rfl
theorem RowK.put {n e kvs} {k:Nat} {oc:Option Nat} {da:Addr} {od:Obj} (r:RowK prog w B n e kvs) (he:e k=none) (hk:k<n) (hd:B da=some od) (hD:DataO prog w oc od) (hm:(da == sysModules)=false):RowK prog w B n (updF e k (some oc)) (stored kvs (k:Int) (.ref da)):=by
 rw [stored_new (r.absent he)]
 refine⟨fun p hp=>?_,fun j hj=>?_⟩
 ·rcases List.mem_append.mp hp with hp | hp
  ·obtain⟨k',hk',e1,oc',da',od',e2,rr⟩:=r.sound p hp
   refine⟨k',hk',e1,oc',da',od',?_,rr⟩
   have:k'≠k:=fun q=>by subst q;rw [he] at e2;contradiction
   exact(if_neg this).trans e2
  ·rw [List.mem_singleton.mp hp]
   exact⟨k,hk,rfl,oc,da,od,if_pos rfl,rfl,hd,hD,hm⟩
 ·by_cases q:j=k
  ·subst q;exact⟨_,List.mem_append_right _ (List.mem_singleton.mpr rfl),rfl⟩
  ·have hj':(e j).isSome=true:=by rw [show updF e k (some oc) j=e j from if_neg q] at hj;exact hj
   obtain⟨p,hp,e1⟩:=r.full j hj'
   exact⟨p,List.mem_append_left _ hp,e1⟩
theorem RowK.congr {n e e' kvs} (r:RowK prog w B n e kvs) (h:∀k,e k=e' k):RowK prog w B n e' kvs:=by
 have:e=e':=funext h
 rw [←this];exact r
theorem RowK.short {n e kvs} {o:Obj} (r:RowK prog w B n e kvs) (hd:DictO prog w kvs o):kvs.length≤n:=
 len_le_of hd.choose_spec.choose_spec.2.2.2.2 fun p hp=>by obtain⟨k,hk,e1,_⟩:=r.sound p hp;exact⟨k,hk,e1⟩
theorem rowL_get {r:Nat→Addr} {kv:Nat→List (Int×Value)} {u i:Nat} (h:u<i):(rowL prog w r kv i)[i - 1 - u]?=some (r u,DictO prog w (kv u)):=dnL_get h
theorem rowL_set {r:Nat→Addr} {kv:Nat→List (Int×Value)} {u:Nat} {k':List (Int×Value)} {i:Nat} (h:u<i):(rowL prog w r kv i).set (i - 1 - u) (r u,DictO prog w k')=rowL prog w r (updF kv u k') i:=
 (dnL_set h).trans (dnL_congr fun j _=>by
  by_cases q:j=u
  ·rw [if_pos q,updF,if_pos q,q]
  ·rw [if_neg q,updF,if_neg q])
theorem rowL_len {r:Nat→Addr} {kv:Nat→List (Int×Value)} {i:Nat}:(rowL prog w r kv i).length=i:=dnL_len
theorem mid_get {α:Type} {f m t:List α} {i:Nat} {x:α} (h:m[i]?=some x):(f++(m++t))[f.length+i]?=some x:=by
 rw [List.getElem?_append_right (Nat.le_add_right _ _),Nat.add_sub_cancel_left]
 obtain⟨hl,_⟩:=List.getElem?_eq_some_iff.mp h
 rw [List.getElem?_append_left hl,h]
theorem mid_set {α:Type} {f m t:List α} {i:Nat} {x:α} (h:i<m.length):(f++(m++t)).set (f.length+i) x=f++(m.set i x++t):=by
 rw [List.set_append_right _ _ (Nat.le_add_right _ _),Nat.add_sub_cancel_left,List.set_append_left _ _ h]
noncomputable def dataKvs (oc:Option Nat) (t:Tok):List (Str×Value):=match oc with | some c=>[("weight",.int (c:Nat) t)] | none=>[]
theorem DataO.ofT {oc:Option Nat} {t:Tok} {o:Obj} (h:DictT prog w (dataKvs oc t) o):DataO prog w oc o:=by
 obtain⟨es,ep,h1,h2,h3,h4,h5⟩:=h
 refine⟨es,ep,_,h1,h2,h3,h4,h5,?_,?_⟩
 ·cases oc <;> simp [dataKvs]
 ·cases oc with
  | none=>rfl
  | some c=>exact⟨.int (c:Nat) t,by simp [dataKvs,valueAt],t,rfl⟩
theorem merged_data {oc:Option Nat} {t:Tok}:merged [] (dataKvs oc t)=dataKvs oc t:=by
 cases oc <;> rfl
end
end
section
set_option tactic.hygienic false
open PySem PySem.W PyProof.Rows
variable [GenI]
noncomputable def addeFn (d:Bool):Addr:=if d then 868 else 689
noncomputable def addeSt (d:Bool):Stmt:=if d then clsSt 37 8 else clsSt 35 19
noncomputable def addeQ (d:Bool):Str:=if d then "DiGraph.add_edges_from" else "Graph.add_edges_from"
noncomputable abbrev nmEd:List Str:=["self","ebunch_to_add","attr","e","ne","u","v","dd","datadict"]
theorem okAdde {d:Bool} {L:Addr} {cd:Value}:EnvOk (envF (addeSt d) (addeQ d) L (addeFn d) cd) L nmEd:=by
 cases d <;> exact .of (by decide +kernel)
theorem mid_get2 {α:Type} {f m1 m t:List α} {i:Nat} {x:α} (h:m[i]?=some x):(f++(m1++(m++t)))[f.length+(m1.length+i)]?=some x:=by
 rw [←List.append_assoc,←Nat.add_assoc,←List.length_append];exact mid_get h
theorem mid_set2 {α:Type} {f m1 m t:List α} {i:Nat} {x:α} (h:i<m.length):(f++(m1++(m++t))).set (f.length+(m1.length+i)) x=f++(m1++(m.set i x++t)):=by
 rw [←List.append_assoc,←Nat.add_assoc,←List.length_append,mid_set h,List.append_assoc]
section
variable {prog:Program} {w:World} {A:Around} {env:Env} {h:Heap} {X:Value→Heap→Prop} {B:PM} {ms:List (Addr×OP)} {L:Addr} {nms:List Str} {avs:List AV} {pos:Pos} {K:Frag} {rest:List Stmt}
theorem gFr_false {n dn:Nat} {l:List (Str×Value)} {nd ad pd i:Nat} {r q:Nat→Addr} {kv qv:Nat→List (Int×Value)} {T:List (Addr×OP)}:gFr prog w false n dn l nd ad pd i r kv q qv++T=(dn,InsD l)::(nd,MapO prog w n (nodesA i))::(ad,MapO prog w n (rowsA r i))::(rowL prog w r kv i++T):=by
 simp [gFr]
theorem gFr_true {n dn:Nat} {l:List (Str×Value)} {nd ad pd i:Nat} {r q:Nat→Addr} {kv qv:Nat→List (Int×Value)} {T:List (Addr×OP)}:gFr prog w true n dn l nd ad pd i r kv q qv++T=(dn,InsD l)::(nd,MapO prog w n (nodesA i))::(ad,MapO prog w n (rowsA r i))::(pd,MapO prog w n (rowsA q i))::(rowL prog w r kv i++(rowL prog w q qv i++T)):=by
 simp [gFr]
noncomputable abbrev EdR:=Nat→Nat→Option (Option Nat)
noncomputable def addE (dir:Bool) (E:EdR) (u v:Nat) (oc:Option Nat):EdR:=fun x=>if x=u then updF (E u) v (some oc)else if dir=false∧x=v then updF (E v) u (some oc)else E x
structure GRows (prog:Program) (w:World) (B:PM) (dir:Bool) (n:Nat) (E:EdR) (kv qv:Nat→List (Int×Value)):Prop where
 out:∀k<n,RowK prog w B n (E k) (kv k)
 inn:dir=true→∀k<n,RowK prog w B n (fun x=>E x k) (qv k)
theorem GRows.le {B':PM} {dir n E kv qv} (g:GRows prog w B dir n E kv qv) (h:B.le B'):GRows prog w B' dir n E kv qv:=⟨fun k hk=>(g.out k hk).le h,fun d k hk=>(g.inn d k hk).le h⟩
structure EdgeB (prog:Program) (w:World) (B:PM) (le u v:Nat) (oc:Option Nat) (dd:Addr):Prop where
 li:∃oLe te oTe tu tv,B le=some oLe∧ListO #[.ref te] oLe∧B te=some oTe∧TupO [.int (u:Nat) tu,.int (v:Nat) tv,.ref dd] oTe
 dat:∃od td,B dd=some od∧DictT prog w (dataKvs oc td) od
 ne:(dd == sysModules)=false
inductive EdJ (prog:Program) (w:World) (dir:Bool) (B:PM) (net dn gd nd ad pd n u v le da:Nat) (oc:Option Nat) (E:EdR) (r q:Nat→Addr) (kv qv:Nat→List (Int×Value)) (i:Nat) (B':PM) (front:List (Addr×OP)) (avs:List AV):Prop
 | a (h0:i=0) (e:B=B') (ea:avs = [.val (.ref net),.val (.ref le),.val (.ref da),.any,.any,.any,.any,.any,.any]) (ef:front=(da,isEmptyO)::gFr prog w dir n dn (instL dir gd nd ad pd) nd ad pd n r kv q qv)
 | b (h0:i=1) (le':B.le B') (kv' qv':Nat→List (Int×Value)) (ef:front=(da,isEmptyO)::gFr prog w dir n dn (instL dir gd nd ad pd) nd ad pd n r kv' q qv') (G:GRows prog w B' dir n (addE dir E u v oc) kv' qv')
inductive AeP (prog:Program) (w:World) (dir:Bool) (B:PM) (dn gd nd ad pd n:Nat) (E:EdR) (r q:Nat→Addr) (tail:List (Addr×OP)) (x:Value) (h':Heap):Prop
 | mk (e:x = .none) (B':PM) (kv' qv':Nat→List (Int×Value)) (hle:B.le B') (S:St B' (gFr prog w dir n dn (instL dir gd nd ad pd) nd ad pd n r kv' q qv'++tail) h') (G:GRows prog w B' dir n E kv' qv')
theorem adde_ok {dir:Bool} {net dn gd nd ad pd n u v le dd:Nat} {oc:Option Nat} {ox:Obj} {tail:List (Addr×OP)} {E:EdR} {r q:Nat→Addr} {kv qv:Nat→List (Int×Value)} (R:Room A 4 20) (F:BuildF K B) (fE:FnAt B (addeFn dir) (addeSt dir) (addeQ dir) .none .none) (gLen:GName B "len" (.builtin "len")) (hn:n≤6) (hox:B net=some ox) (hpl:PlainO (clsOf dir) dn (fun _=>True) ox)
  (hu:u<n) (hv:v<n) (he:E u v=none) (hsym:dir=false→u≠v∧E v u=none) (D:EdgeB prog w B le u v oc dd) (G:GRows prog w B dir n E kv qv) (S:St B (gFr prog w dir n dn (instL dir gd nd ad pd) nd ad pd n r kv q qv++tail) h):
  Tc prog w A (.call (.ref (addeFn dir)) ⟨[.ref net,.ref le],[]⟩) h (AeP prog w dir B dn gd nd ad pd n (addE dir E u v oc) r q tail) noX:=by
 obtain⟨oLe,te,oTe,tu,tv,hLe,eLe,hTe,eTe⟩:=D.li
 obtain⟨oD,td,hD,eD⟩:=D.dat
 refine Tc.callFnK (d:=3) (u:=17) (at_:= "attr") (binds:=[("self",.ref net),("ebunch_to_add",.ref le)]) R fE F.gr.lim S (fun x' s' M A E Q hs' hq=>?_) nmEd (fun da=>[.val (.ref net),.val (.ref le),.val (.ref da),.any,.any,.any,.any,.any,.any]) (fun da=>.cons rfl (.cons rfl (.cons rfl (.cons trivial (.cons trivial (.cons trivial (.cons trivial (.cons trivial (.cons trivial .nil))))))))) (fun y hy=>?_) (by cases dir <;> rfl) ?_ (by cases dir <;> decide +kernel) (by cases dir <;> rfl) (by cases dir <;> rfl) (by cases dir <;> rfl)
 ·refine wpAny_eq (t':=alloc emptyO >>= fun d=>Pure.pure ([("self",Value.ref net),("ebunch_to_add",.ref le),("attr",.ref d)]:List (Str×Value))) (by cases dir <;> with_unfolding_all rfl) (wpAny_bind (wpAny_alloc (wpAny_pure hq)))
 ·have:y.1∈(["self","ebunch_to_add"]:List Str):=List.mem_map_of_mem (f:=(·.1)) hy
  cases dir
  ·exact(by decide +kernel:∀y∈(["self","ebunch_to_add"]:List Str),(fnScope (addeSt false)).names.lookup y=some .local) _ this
  ·exact(by decide +kernel:∀y∈(["self","ebunch_to_add"]:List Str),(fnScope (addeSt true)).names.lookup y=some .local) _ this
 ·intro L h1 cd A' da R' S1
  have O:EnvOk (envF (addeSt dir) (addeQ dir) L (addeFn dir) cd) L nmEd:=okAdde
  have own:=F.gr.own dir
  have fact:=F.fact dir
  cases dir with
  | false=>
   obtain⟨huv,hvu⟩:=hsym rfl
   refine Cd.for_ (nms:=nmEd) (tail:=tail) R'.hh 1 (fun i v _=>(#[Value.ref te]:Array Value)[i]?=some v) (EdJ prog w false B net dn gd nd ad pd n u v le da oc E r q kv qv)
    (.ofEv (.name O S1 1 rfl rfl) fun v hv=>⟨B,_,_,S1,.a rfl rfl rfl rfl,?_,fun i B' fr av hJ=>?_⟩) ?_ ?_
   ·have hv':v = .ref le:=hv
    subst hv'
    exact Turns.list hLe S1.keep ⟨oLe,S1.keep _ _ hLe,eLe⟩ S1.size2
   ·rcases hJ with⟨_,rfl,_⟩ | ⟨_,h,_⟩
    ·exact PM.le_refl _
    ·exact h
   ·rintro i x I Q PP B' front avs h2 hi hx (⟨h0,rfl,rfl,rfl⟩ | ⟨h0,_⟩) S2
    rotate_left
    ·exact(nt61 hi h0).elim
    have hx':x = .ref te:=by rw [h0] at hx;simpa using hx.symm
    subst hx'
    refine Tr.asgName O S2 3 rfl (av:= .val (.ref te)) rfl fun h3 S3=>?_
    rw [List.cons_append,gFr_false] at S3
    let v_1:List AV:=[.val (.ref net),.val (.ref le),.val (.ref da),.val (.ref te),.any,.any,.any,.any,.any]
    let t_1:List (Addr×OP):=(da,isEmptyO)::(dn,InsD (instL false gd nd ad pd))::(nd,MapO prog w n (nodesA n))::(ad,MapO prog w n (rowsA r n))::(rowL prog w r kv n++(I,Q)::tail)
    have S3:St B ((L,FrameO nmEd v_1)::t_1) h3:=S3
    refine Cd.assign O 4 rfl (.lenTup O S3 gLen rfl (.name O S3 3 rfl rfl) (vs:=[.int (u:Nat) tu,.int (v:Nat) tv,.ref dd]) ⟨oTe,S3.keep _ _ hTe,eTe⟩ (by exact Nat.le_of_ble_eq_true rfl) fun t3=>⟨_,_,_,.int 3,S3,⟨t3,rfl⟩,fun h4 S4=>?_⟩)
    let v_2:List AV:=[.val (.ref net),.val (.ref le),.val (.ref da),.val (.ref te),.int 3,.any,.any,.any,.any]
    let t_2:List (Addr×OP):=(da,isEmptyO)::(dn,InsD (instL false gd nd ad pd))::(nd,MapO prog w n (nodesA n))::(ad,MapO prog w n (rowsA r n))::(rowL prog w r kv n++(I,Q)::tail)
    have S4:St B ((L,FrameO nmEd v_2)::t_2) h4:=S4
    refine Cd.ifT (.eq (.cmp (.name O S4 4 rfl rfl) .cInt .eq) rfl) ?_
    refine Cd.asgCall O R'.hh (by decide) (.ofEv (.name O S4 3 rfl rfl) fun x hx=>⟨B,_,_,te,[.int (u:Nat) tu,.int (v:Nat) tv,.ref dd].toArray,hx,S4,isTuple_of (S4.keep _ _ hTe) eTe,[(5,"u",.int (u:Nat) tu,.int (u:Nat)),(6,"v",.int (v:Nat) tv,.int (v:Nat)),(7,"dd",.ref dd,.val (.ref dd))],⟨[_,_,_],rfl,rfl⟩,rfl,?_,fun h5 S5=>?_⟩)
    ·intro p hp
     simp only [List.mem_cons,List.not_mem_nil,or_false] at hp
     rcases hp with rfl | rfl | rfl
     ·exact⟨rfl,tu,rfl⟩
     ·exact⟨rfl,tv,rfl⟩
     ·exact⟨rfl,rfl⟩
    let v_3:List AV:=[.val (.ref net),.val (.ref le),.val (.ref da),.val (.ref te),.int 3,.int (u:Nat),.int (v:Nat),.val (.ref dd),.any]
    let t_3:List (Addr×OP):=(da,isEmptyO)::(dn,InsD (instL false gd nd ad pd))::(nd,MapO prog w n (nodesA n))::(ad,MapO prog w n (rowsA r n))::(rowL prog w r kv n++(I,Q)::tail)
    have S5:St B ((L,FrameO nmEd v_3)::t_3) h5:=S5
    obtain⟨od5,hod5,hil5⟩:=S5.mem (i:=2) rfl
    obtain⟨oN5,hoN5,mN5⟩:=S5.mem (i:=3) rfl
    obtain⟨oA5,hoA5,mA5⟩:=S5.mem (i:=4) rfl
    have I5:=instAt (S5.keep _ _ hox) hpl.1 hpl.2.1 hpl.2.2.1 hod5
    refine Cd.ifF (.eq (.cmp (.name O S5 5 rfl rfl) (.attr (.name O S5 0 rfl rfl) (.own (F.inK.in S5) (F.gr.cls false) (own _ (by simp)) I5 hil5 rfl rfl)) (.notInM (k:=u) hoN5 mN5 (S5.notMods (i:=3) rfl))) (by simp [nodesA,hu])) ?_
    refine Cd.ifF (.eq (.cmp (.name O S5 6 rfl rfl) (.attr (.name O S5 0 rfl rfl) (.own (F.inK.in S5) (F.gr.cls false) (own _ (by simp)) I5 hil5 rfl rfl)) (.notInM (k:=v) hoN5 mN5 (S5.notMods (i:=3) rfl))) (by simp [nodesA,hv])) ?_
    have hju:∀{f t:List (Addr×OP)},(f++(rowL prog w r kv n++t))[f.length+(n - 1 - u)]?=some (r u,DictO prog w (kv u)):=fun {f t}=>mid_get (rowL_get hu)
    obtain⟨oR5,hoR5,dR5⟩:=S5.mem (i:=5+(n - 1 - u)) (hju (f:=[_,_,_,_,_]))
    have hmR5:=(dictO_iff.mpr ⟨oR5,hoR5,dR5⟩:h5.DictOf (intKind prog w) (r u) (kv u)).mapOf
    refine Cd.assign O 8 rfl (.callMeth (ov:= .ref (r u)) (.subM (k:=u) (.attr (.name O S5 0 rfl rfl) (.own (F.inK.in S5) (F.gr.cls false) (own _ (by simp)) I5 hil5 rfl rfl)) (.name O S5 5 rfl rfl) hoA5 mA5 (if_pos hu))
     (.builtin (fun g d tk os=>hmR5.typeIs (s:=⟨h5,g,d,tk,os⟩)) PySem.F.plainAttrs_dict PySem.F.slot_dict_get PySem.F.type_dict_get fun a e=>⟨oR5,by obtain rfl:=Value.ref.inj e;exact hoR5,by obtain⟨_,_,hx,_⟩:=dR5;exact hx.2.1⟩)
     (.evE (.name O S5 6 rfl rfl) fun v1 hv1=>.evCons (.factory (.name O S5 0 rfl rfl) (F.inK.in S5) (F.gr.cls false) (fact _ (by simp)) I5 (.of hil5) rfl (.evNil ⟨.builtin,?_⟩))))
    obtain⟨tv1,rfl⟩:=hv1
    have S6:=S5.pushM (o:=emptyO) (P:=DictT prog w []) DictT.nil
    generalize h5.objs.size=a at S6 ⊢
    have S6:=S6.perm (List.Perm.swap ..)
    refine Tr.getDflt (j:=6+(n - 1 - u)) S6 (hju (f:=[_,_,_,_,_,_])) ((G.out u hu).absent he) ⟨_,_,_,.val (.ref a),S6,rfl,fun h7 S7=>?_⟩
    let v_4:List AV:=[.val (.ref net),.val (.ref le),.val (.ref da),.val (.ref te),.int 3,.int (u:Nat),.int (v:Nat),.val (.ref dd),.val (.ref a)]
    let t_4:List (Addr×OP):=(a,DictT prog w [])::(da,isEmptyO)::(dn,InsD (instL false gd nd ad pd))::(nd,MapO prog w n (nodesA n))::(ad,MapO prog w n (rowsA r n))::(rowL prog w r kv n++(I,Q)::tail)
    have S7:St B ((L,FrameO nmEd v_4)::t_4) h7:=S7
    obtain⟨oda,hoda,eda⟩:=S7.mem (i:=2) rfl
    have eda:oda=emptyO:=eda
    subst eda
    have upd1:∀{kvs:List (Str×Value)} {h8:Heap},St B ((L,FrameO nmEd [.val (.ref net),.val (.ref le),.val (.ref da),.val (.ref te),.int 3,.int (u:Nat),.int (v:Nat),.val (.ref dd),.val (.ref a)])::(a,DictT prog w kvs)::(da,isEmptyO)::(dn,InsD (instL false gd nd ad pd))::(nd,MapO prog w n (nodesA n))::(ad,MapO prog w n (rowsA r n))::(rowL prog w r kv n++(I,Q)::tail)) h8→Gm prog w h8 (.ref a) "update" (.builtin "dict.update") [.ref a]:=fun {kvs h8} S8=>by
     obtain⟨ob,hob,hbt⟩:=S8.mem (i:=1) rfl
     exact .builtin (fun g d tk os=>(dictT_iff.mpr ⟨ob,hob,hbt⟩:h8.DictOf (PySem.strKind prog w) a kvs).typeIs (s:=⟨h8,g,d,tk,os⟩)) PySem.F.plainAttrs_dict PySem.F.slot_dict_update PySem.F.type_dict_update fun a e=>⟨ob,by obtain rfl:=Value.ref.inj e;exact hob,by obtain⟨_,_,hx,_⟩:=hbt;exact hx.2.1⟩
    have hne1:a≠da:=S7.ne (i:=1) (j:=2) rfl rfl
    refine Cd.expr (.callMeth (ov:= .ref a) (.name O S7 8 rfl rfl) (upd1 S7) (.evE (.name O S7 2 rfl rfl) fun x hx=>.evNil ⟨.builtin,?_⟩))
    have hx':x = .ref da:=hx
    subst hx'
    refine Tr.update (j:=1) S7 rfl hoda DictT.nil hne1 (S7.notMods (i:=2) rfl) (by simp) fun h8 S8=>?_
    let v_5:List AV:=[.val (.ref net),.val (.ref le),.val (.ref da),.val (.ref te),.int 3,.int (u:Nat),.int (v:Nat),.val (.ref dd),.val (.ref a)]
    let t_5:List (Addr×OP):=(a,DictT prog w [])::(da,isEmptyO)::(dn,InsD (instL false gd nd ad pd))::(nd,MapO prog w n (nodesA n))::(ad,MapO prog w n (rowsA r n))::(rowL prog w r kv n++(I,Q)::tail)
    have S8:St B ((L,FrameO nmEd v_5)::t_5) h8:=S8
    have hne2:a≠dd:=fun e=>by
     have:=S8.off (a,DictT prog w []) (.tail _ (.head _))
     dsimp only at this
     rw [e,hD] at this;contradiction
    refine Cd.expr (.callMeth (ov:= .ref a) (.name O S8 8 rfl rfl) (upd1 S8) (.evE (.name O S8 7 rfl rfl) fun x hx=>.evNil ⟨.builtin,?_⟩))
    have hx':x = .ref dd:=hx
    subst hx'
    refine Tr.update (j:=1) S8 rfl (S8.keep _ _ hD) eD hne2 D.ne (by cases oc <;> simp [dataKvs]) fun h9 S9=>?_
    rw [merged_data] at S9
    let v_6:List AV:=[.val (.ref net),.val (.ref le),.val (.ref da),.val (.ref te),.int 3,.int (u:Nat),.int (v:Nat),.val (.ref dd),.val (.ref a)]
    let t_6:List (Addr×OP):=(a,DictT prog w (dataKvs oc td))::(da,isEmptyO)::(dn,InsD (instL false gd nd ad pd))::(nd,MapO prog w n (nodesA n))::(ad,MapO prog w n (rowsA r n))::(rowL prog w r kv n++(I,Q)::tail)
    have S9:St B ((L,FrameO nmEd v_6)::t_6) h9:=S9
    have S9:=S9.perm (List.Perm.swap ..)
    obtain⟨oa,hoa,dT⟩:=S9.mem (i:=0) rfl
    have amod:=S9.notMods (i:=0) rfl
    have hle1:=PM.le_put (o:=oa) (S9.off _ (.head _))
    have S10:=S9.freeze0 hoa
    have ha:(B.put a oa) a=some oa:=PM.put_self
    generalize B.put a oa=B1 at S10 hle1 ha
    have G1:=G.le hle1
    have dO:=DataO.ofT dT
    have eAdj:∀{h kk},St B1 ((L,FrameO nmEd [.val (.ref net),.val (.ref le),.val (.ref da),.val (.ref te),.int 3,.int (u:Nat),.int (v:Nat),.val (.ref dd),.val (.ref a)])::(da,isEmptyO)::(dn,InsD (instL false gd nd ad pd))::(nd,MapO prog w n (nodesA n))::(ad,MapO prog w n (rowsA r n))::(rowL prog w r kk n++(I,Q)::tail)) h→∀{x} (ix:Nat) {y p1 p2 p3 p4},x<n→nmEd[ix]?=some y→([.val (.ref net),.val (.ref le),.val (.ref da),.val (.ref te),.int 3,.int (u:Nat),.int (v:Nat),.val (.ref dd),.val (.ref a)]:List AV)[ix]?=some (.int (x:Nat))→(y == ("__debug__" :Str))=false→Ev prog w A' (envF (addeSt false) (addeQ false) L (addeFn false) cd) h (.Subscript (.Attribute (.Name "self" p1) "_adj" p2) (.Name y p3) p4) (.val (.ref (r x))):=fun S x ix y p1 p2 p3 p4 hxn hy hay hyd=>by
     obtain⟨od,hod,hil⟩:=S.mem (i:=2) rfl
     obtain⟨oA,hoA,mA⟩:=S.mem (i:=4) rfl
     exact .subM (k:=x) (.attr (.name O S 0 rfl rfl) (.own (F.inK.le hle1 |>.in S) (F.gr.cls false) (own _ (by simp)) (instAt (S.keep _ _ (hle1 _ _ hox)) hpl.1 hpl.2.1 hpl.2.2.1 hod) hil rfl rfl)) (.name O S ix hy hay (by nofun) hyd) hoA mA (if_pos hxn)
    have shortU:(kv u).length≤100:=by
     have:=(G1.out u hu).short dR5
     exact nt176 hn this
    refine Cd.storeD (j:=5+(n - 1 - u)) S10 (hju (f:=[_,_,_,_,_])) (.name O S10 8 rfl rfl) (eAdj S10 5 hu rfl rfl (by decide)) (.name O S10 6 rfl rfl) shortU fun h11 S11=>?_
    generalize hkv1:updF kv u (stored (kv u) (v:Int) (.ref a))=kv1
    let v_7:List AV:=[.val (.ref net),.val (.ref le),.val (.ref da),.val (.ref te),.int 3,.int (u:Nat),.int (v:Nat),.val (.ref dd),.val (.ref a)]
    let t_7:List (Addr×OP):=(da,isEmptyO)::(dn,InsD (instL false gd nd ad pd))::(nd,MapO prog w n (nodesA n))::(ad,MapO prog w n (rowsA r n))::(rowL prog w r kv1 n++(I,Q)::tail)
    have S11:St B1 ((L,FrameO nmEd v_7)::t_7) h11:=by
     have e:=mid_set (f:=[(L,FrameO nmEd [.val (.ref net),.val (.ref le),.val (.ref da),.val (.ref te),.int 3,.int (u:Nat),.int (v:Nat),.val (.ref dd),.val (.ref a)]),(da,isEmptyO),(dn,InsD (instL false gd nd ad pd)),(nd,MapO prog w n (nodesA n)),(ad,MapO prog w n (rowsA r n))]) (m:=rowL prog w r kv n) (t:=(I,Q)::tail) (i:=n - 1 - u) (x:=(r u,DictO prog w (stored (kv u) (v:Int) (.ref a)))) (by rw [rowL_len];exact nt148 hu)
     rw [rowL_set hu,hkv1] at e
     exact Eq.mp (congrArg (fun l=>St B1 l h11) e) S11
    have ev1:kv1 v=kv v:=by rw [←hkv1];exact if_neg (Ne.symm huv)
    obtain⟨oR11,hoR11,dR11⟩:=S11.mem (i:=5+(n - 1 - v)) (mid_get (f:=[_,_,_,_,_]) (rowL_get hv))
    have shortV:(kv1 v).length≤100:=by
     rw [ev1] at dR11 ⊢
     have:=(G1.out v hv).short dR11
     exact nt176 hn this
    refine Cd.storeD (j:=5+(n - 1 - v)) S11 (mid_get (f:=[_,_,_,_,_]) (rowL_get hv)) (.name O S11 8 rfl rfl) (eAdj S11 6 hv rfl rfl (by decide)) (.name O S11 5 rfl rfl) shortV fun h12 S12=>?_
    generalize hkv2:updF kv1 v (stored (kv1 v) (u:Int) (.ref a))=kv2
    let v_8:List AV:=[.val (.ref net),.val (.ref le),.val (.ref da),.val (.ref te),.int 3,.int (u:Nat),.int (v:Nat),.val (.ref dd),.val (.ref a)]
    let t_8:List (Addr×OP):=(da,isEmptyO)::(dn,InsD (instL false gd nd ad pd))::(nd,MapO prog w n (nodesA n))::(ad,MapO prog w n (rowsA r n))::(rowL prog w r kv2 n++(I,Q)::tail)
    have S12:St B1 ((L,FrameO nmEd v_8)::t_8) h12:=by
     have e:=mid_set (f:=[(L,FrameO nmEd [.val (.ref net),.val (.ref le),.val (.ref da),.val (.ref te),.int 3,.int (u:Nat),.int (v:Nat),.val (.ref dd),.val (.ref a)]),(da,isEmptyO),(dn,InsD (instL false gd nd ad pd)),(nd,MapO prog w n (nodesA n)),(ad,MapO prog w n (rowsA r n))]) (m:=rowL prog w r kv1 n) (t:=(I,Q)::tail) (i:=n - 1 - v) (x:=(r v,DictO prog w (stored (kv1 v) (u:Int) (.ref a)))) (by rw [rowL_len];exact nt148 hv)
     rw [rowL_set hv,hkv2] at e
     exact Eq.mp (congrArg (fun l=>St B1 l h12) e) S12
    refine Cd.nil ⟨B1,_,[.val (.ref net),.val (.ref le),.val (.ref da),.val (.ref te),.int 3,.int (u:Nat),.int (v:Nat),.val (.ref dd),.val (.ref a)],?_,.b (congrArg (· +1) h0) hle1 kv2 qv rfl ⟨fun k hk=>?_,nofun⟩⟩
    ·rw [List.cons_append,gFr_false];exact S12
    ·rw [←hkv2]
     by_cases q1:k=v
     ·subst k
      rw [show updF kv1 v (stored (kv1 v) (u:Int) (.ref a)) v=stored (kv1 v) (u:Int) (.ref a)from if_pos rfl,ev1]
      refine((G1.out v hk).put hvu hu ha dO amod).congr fun x=>?_
      unfold addE
      rw [if_neg (Ne.symm huv),if_pos ⟨rfl,rfl⟩]
     ·rw [show updF kv1 v (stored (kv1 v) (u:Int) (.ref a)) k=kv1 k from if_neg q1,←hkv1]
      by_cases q2:k=u
      ·subst k
       rw [show updF kv u (stored (kv u) (v:Int) (.ref a)) u=stored (kv u) (v:Int) (.ref a)from if_pos rfl]
       refine((G1.out u hk).put he hv ha dO amod).congr fun x=>?_
       unfold addE
       rw [if_pos rfl]
      ·rw [show updF kv u (stored (kv u) (v:Int) (.ref a)) k=kv k from if_neg q2]
       refine(G1.out k hk).congr fun x=>?_
       unfold addE
       rw [if_neg q2,if_neg fun q=>q1 q.2]
   ·rintro B' front avs h2 (⟨q0,_⟩ | ⟨_,hle,kv',qv',rfl,G'⟩) S2
    ·contradiction
    ·exact Cd.nil ⟨rfl,B',kv',qv',hle,S2.drop0.drop0,G'⟩
  | true=>
   refine Cd.for_ (nms:=nmEd) (tail:=tail) R'.hh 1 (fun i v _=>(#[Value.ref te]:Array Value)[i]?=some v) (EdJ prog w true B net dn gd nd ad pd n u v le da oc E r q kv qv)
    (.ofEv (.name O S1 1 rfl rfl) fun v hv=>⟨B,_,_,S1,.a rfl rfl rfl rfl,?_,fun i B' fr av hJ=>?_⟩) ?_ ?_
   ·have hv':v = .ref le:=hv
    subst hv'
    exact Turns.list hLe S1.keep ⟨oLe,S1.keep _ _ hLe,eLe⟩ S1.size2
   ·rcases hJ with⟨_,rfl,_⟩ | ⟨_,h,_⟩
    ·exact PM.le_refl _
    ·exact h
   ·rintro i x I Q PP B' front avs h2 hi hx (⟨h0,rfl,rfl,rfl⟩ | ⟨h0,_⟩) S2
    rotate_left
    ·exact(nt61 hi h0).elim
    have hx':x = .ref te:=by rw [h0] at hx;simpa using hx.symm
    subst hx'
    refine Tr.asgName O S2 3 rfl (av:= .val (.ref te)) rfl fun h3 S3=>?_
    rw [List.cons_append,gFr_true] at S3
    let v_9:List AV:=[.val (.ref net),.val (.ref le),.val (.ref da),.val (.ref te),.any,.any,.any,.any,.any]
    let t_9:List (Addr×OP):=(da,isEmptyO)::(dn,InsD (instL true gd nd ad pd))::(nd,MapO prog w n (nodesA n))::(ad,MapO prog w n (rowsA r n))::(pd,MapO prog w n (rowsA q n))::(rowL prog w r kv n++(rowL prog w q qv n++(I,Q)::tail))
    have S3:St B ((L,FrameO nmEd v_9)::t_9) h3:=S3
    refine Cd.assign O 4 rfl (.lenTup O S3 gLen rfl (.name O S3 3 rfl rfl) (vs:=[.int (u:Nat) tu,.int (v:Nat) tv,.ref dd]) ⟨oTe,S3.keep _ _ hTe,eTe⟩ (by exact Nat.le_of_ble_eq_true rfl) fun t3=>⟨_,_,_,.int 3,S3,⟨t3,rfl⟩,fun h4 S4=>?_⟩)
    let v_10:List AV:=[.val (.ref net),.val (.ref le),.val (.ref da),.val (.ref te),.int 3,.any,.any,.any,.any]
    let t_10:List (Addr×OP):=(da,isEmptyO)::(dn,InsD (instL true gd nd ad pd))::(nd,MapO prog w n (nodesA n))::(ad,MapO prog w n (rowsA r n))::(pd,MapO prog w n (rowsA q n))::(rowL prog w r kv n++(rowL prog w q qv n++(I,Q)::tail))
    have S4:St B ((L,FrameO nmEd v_10)::t_10) h4:=S4
    refine Cd.ifT (.eq (.cmp (.name O S4 4 rfl rfl) .cInt .eq) rfl) ?_
    refine Cd.asgCall O R'.hh (by decide) (.ofEv (.name O S4 3 rfl rfl) fun x hx=>⟨B,_,_,te,[.int (u:Nat) tu,.int (v:Nat) tv,.ref dd].toArray,hx,S4,isTuple_of (S4.keep _ _ hTe) eTe,[(5,"u",.int (u:Nat) tu,.int (u:Nat)),(6,"v",.int (v:Nat) tv,.int (v:Nat)),(7,"dd",.ref dd,.val (.ref dd))],⟨[_,_,_],rfl,rfl⟩,rfl,?_,fun h5 S5=>?_⟩)
    ·intro p hp
     simp only [List.mem_cons,List.not_mem_nil,or_false] at hp
     rcases hp with rfl | rfl | rfl
     ·exact⟨rfl,tu,rfl⟩
     ·exact⟨rfl,tv,rfl⟩
     ·exact⟨rfl,rfl⟩
    let v_11:List AV:=[.val (.ref net),.val (.ref le),.val (.ref da),.val (.ref te),.int 3,.int (u:Nat),.int (v:Nat),.val (.ref dd),.any]
    let t_11:List (Addr×OP):=(da,isEmptyO)::(dn,InsD (instL true gd nd ad pd))::(nd,MapO prog w n (nodesA n))::(ad,MapO prog w n (rowsA r n))::(pd,MapO prog w n (rowsA q n))::(rowL prog w r kv n++(rowL prog w q qv n++(I,Q)::tail))
    have S5:St B ((L,FrameO nmEd v_11)::t_11) h5:=S5
    obtain⟨od5,hod5,hil5⟩:=S5.mem (i:=2) rfl
    obtain⟨oN5,hoN5,mN5⟩:=S5.mem (i:=3) rfl
    obtain⟨oA5,hoA5,mA5⟩:=S5.mem (i:=4) rfl
    have I5:=instAt (S5.keep _ _ hox) hpl.1 hpl.2.1 hpl.2.2.1 hod5
    refine Cd.ifF (.eq (.cmp (.name O S5 5 rfl rfl) (.attr (.name O S5 0 rfl rfl) (.own (F.inK.in S5) (F.gr.cls true) (own _ (by simp)) I5 hil5 rfl rfl)) (.notInM (k:=u) hoA5 mA5 (S5.notMods (i:=4) rfl))) (by simp [rowsA,hu])) ?_
    refine Cd.ifF (.eq (.cmp (.name O S5 6 rfl rfl) (.attr (.name O S5 0 rfl rfl) (.own (F.inK.in S5) (F.gr.cls true) (own _ (by simp)) I5 hil5 rfl rfl)) (.notInM (k:=v) hoA5 mA5 (S5.notMods (i:=4) rfl))) (by simp [rowsA,hv])) ?_
    have hju:∀{f t:List (Addr×OP)},(f++(rowL prog w r kv n++t))[f.length+(n - 1 - u)]?=some (r u,DictO prog w (kv u)):=fun {f t}=>mid_get (rowL_get hu)
    obtain⟨oR5,hoR5,dR5⟩:=S5.mem (i:=6+(n - 1 - u)) (hju (f:=[_,_,_,_,_,_]))
    have hmR5:=(dictO_iff.mpr ⟨oR5,hoR5,dR5⟩:h5.DictOf (intKind prog w) (r u) (kv u)).mapOf
    refine Cd.assign O 8 rfl (.callMeth (ov:= .ref (r u)) (.subM (k:=u) (.attr (.name O S5 0 rfl rfl) (.own (F.inK.in S5) (F.gr.cls true) (own _ (by simp)) I5 hil5 rfl rfl)) (.name O S5 5 rfl rfl) hoA5 mA5 (if_pos hu))
     (.builtin (fun g d tk os=>hmR5.typeIs (s:=⟨h5,g,d,tk,os⟩)) PySem.F.plainAttrs_dict PySem.F.slot_dict_get PySem.F.type_dict_get fun a e=>⟨oR5,by obtain rfl:=Value.ref.inj e;exact hoR5,by obtain⟨_,_,hx,_⟩:=dR5;exact hx.2.1⟩)
     (.evE (.name O S5 6 rfl rfl) fun v1 hv1=>.evCons (.factory (.name O S5 0 rfl rfl) (F.inK.in S5) (F.gr.cls true) (fact _ (by simp)) I5 (.of hil5) rfl (.evNil ⟨.builtin,?_⟩))))
    obtain⟨tv1,rfl⟩:=hv1
    have S6:=S5.pushM (o:=emptyO) (P:=DictT prog w []) DictT.nil
    generalize h5.objs.size=a at S6 ⊢
    have S6:=S6.perm (List.Perm.swap ..)
    refine Tr.getDflt (j:=7+(n - 1 - u)) S6 (hju (f:=[_,_,_,_,_,_,_])) ((G.out u hu).absent he) ⟨_,_,_,.val (.ref a),S6,rfl,fun h7 S7=>?_⟩
    let v_12:List AV:=[.val (.ref net),.val (.ref le),.val (.ref da),.val (.ref te),.int 3,.int (u:Nat),.int (v:Nat),.val (.ref dd),.val (.ref a)]
    let t_12:List (Addr×OP):=(a,DictT prog w [])::(da,isEmptyO)::(dn,InsD (instL true gd nd ad pd))::(nd,MapO prog w n (nodesA n))::(ad,MapO prog w n (rowsA r n))::(pd,MapO prog w n (rowsA q n))::(rowL prog w r kv n++(rowL prog w q qv n++(I,Q)::tail))
    have S7:St B ((L,FrameO nmEd v_12)::t_12) h7:=S7
    obtain⟨oda,hoda,eda⟩:=S7.mem (i:=2) rfl
    have eda:oda=emptyO:=eda
    subst eda
    have upd1:∀{kvs:List (Str×Value)} {h8:Heap},St B ((L,FrameO nmEd [.val (.ref net),.val (.ref le),.val (.ref da),.val (.ref te),.int 3,.int (u:Nat),.int (v:Nat),.val (.ref dd),.val (.ref a)])::(a,DictT prog w kvs)::(da,isEmptyO)::(dn,InsD (instL true gd nd ad pd))::(nd,MapO prog w n (nodesA n))::(ad,MapO prog w n (rowsA r n))::(pd,MapO prog w n (rowsA q n))::(rowL prog w r kv n++(rowL prog w q qv n++(I,Q)::tail))) h8→Gm prog w h8 (.ref a) "update" (.builtin "dict.update") [.ref a]:=fun {kvs h8} S8=>by
     obtain⟨ob,hob,hbt⟩:=S8.mem (i:=1) rfl
     exact .builtin (fun g d tk os=>(dictT_iff.mpr ⟨ob,hob,hbt⟩:h8.DictOf (PySem.strKind prog w) a kvs).typeIs (s:=⟨h8,g,d,tk,os⟩)) PySem.F.plainAttrs_dict PySem.F.slot_dict_update PySem.F.type_dict_update fun a e=>⟨ob,by obtain rfl:=Value.ref.inj e;exact hob,by obtain⟨_,_,hx,_⟩:=hbt;exact hx.2.1⟩
    have hne1:a≠da:=S7.ne (i:=1) (j:=2) rfl rfl
    refine Cd.expr (.callMeth (ov:= .ref a) (.name O S7 8 rfl rfl) (upd1 S7) (.evE (.name O S7 2 rfl rfl) fun x hx=>.evNil ⟨.builtin,?_⟩))
    have hx':x = .ref da:=hx
    subst hx'
    refine Tr.update (j:=1) S7 rfl hoda DictT.nil hne1 (S7.notMods (i:=2) rfl) (by simp) fun h8 S8=>?_
    let v_13:List AV:=[.val (.ref net),.val (.ref le),.val (.ref da),.val (.ref te),.int 3,.int (u:Nat),.int (v:Nat),.val (.ref dd),.val (.ref a)]
    let t_13:List (Addr×OP):=(a,DictT prog w [])::(da,isEmptyO)::(dn,InsD (instL true gd nd ad pd))::(nd,MapO prog w n (nodesA n))::(ad,MapO prog w n (rowsA r n))::(pd,MapO prog w n (rowsA q n))::(rowL prog w r kv n++(rowL prog w q qv n++(I,Q)::tail))
    have S8:St B ((L,FrameO nmEd v_13)::t_13) h8:=S8
    have hne2:a≠dd:=fun e=>by
     have:=S8.off (a,DictT prog w []) (.tail _ (.head _))
     dsimp only at this
     rw [e,hD] at this;contradiction
    refine Cd.expr (.callMeth (ov:= .ref a) (.name O S8 8 rfl rfl) (upd1 S8) (.evE (.name O S8 7 rfl rfl) fun x hx=>.evNil ⟨.builtin,?_⟩))
    have hx':x = .ref dd:=hx
    subst hx'
    refine Tr.update (j:=1) S8 rfl (S8.keep _ _ hD) eD hne2 D.ne (by cases oc <;> simp [dataKvs]) fun h9 S9=>?_
    rw [merged_data] at S9
    let v_14:List AV:=[.val (.ref net),.val (.ref le),.val (.ref da),.val (.ref te),.int 3,.int (u:Nat),.int (v:Nat),.val (.ref dd),.val (.ref a)]
    let t_14:List (Addr×OP):=(a,DictT prog w (dataKvs oc td))::(da,isEmptyO)::(dn,InsD (instL true gd nd ad pd))::(nd,MapO prog w n (nodesA n))::(ad,MapO prog w n (rowsA r n))::(pd,MapO prog w n (rowsA q n))::(rowL prog w r kv n++(rowL prog w q qv n++(I,Q)::tail))
    have S9:St B ((L,FrameO nmEd v_14)::t_14) h9:=S9
    have S9:=S9.perm (List.Perm.swap ..)
    obtain⟨oa,hoa,dT⟩:=S9.mem (i:=0) rfl
    have amod:=S9.notMods (i:=0) rfl
    have hle1:=PM.le_put (o:=oa) (S9.off _ (.head _))
    have S10:=S9.freeze0 hoa
    have ha:(B.put a oa) a=some oa:=PM.put_self
    generalize B.put a oa=B1 at S10 hle1 ha
    have G1:=G.le hle1
    have dO:=DataO.ofT dT
    have eSucc:∀{h kk qq p1 p2 p3 p4},St B1 ((L,FrameO nmEd [.val (.ref net),.val (.ref le),.val (.ref da),.val (.ref te),.int 3,.int (u:Nat),.int (v:Nat),.val (.ref dd),.val (.ref a)])::(da,isEmptyO)::(dn,InsD (instL true gd nd ad pd))::(nd,MapO prog w n (nodesA n))::(ad,MapO prog w n (rowsA r n))::(pd,MapO prog w n (rowsA q n))::(rowL prog w r kk n++(rowL prog w q qq n++(I,Q)::tail))) h→Ev prog w A' (envF (addeSt true) (addeQ true) L (addeFn true) cd) h (.Subscript (.Attribute (.Name "self" p1) "_succ" p2) (.Name "u" p3) p4) (.val (.ref (r u))):=fun S=>by
     obtain⟨od,hod,hil⟩:=S.mem (i:=2) rfl
     obtain⟨oA,hoA,mA⟩:=S.mem (i:=4) rfl
     exact .subM (k:=u) (.attr (.name O S 0 rfl rfl) (.own (F.inK.le hle1 |>.in S) (F.gr.cls true) (own _ (by simp)) (instAt (S.keep _ _ (hle1 _ _ hox)) hpl.1 hpl.2.1 hpl.2.2.1 hod) hil rfl rfl)) (.name O S 5 rfl rfl) hoA mA (if_pos hu)
    have ePred:∀{h kk qq p1 p2 p3 p4},St B1 ((L,FrameO nmEd [.val (.ref net),.val (.ref le),.val (.ref da),.val (.ref te),.int 3,.int (u:Nat),.int (v:Nat),.val (.ref dd),.val (.ref a)])::(da,isEmptyO)::(dn,InsD (instL true gd nd ad pd))::(nd,MapO prog w n (nodesA n))::(ad,MapO prog w n (rowsA r n))::(pd,MapO prog w n (rowsA q n))::(rowL prog w r kk n++(rowL prog w q qq n++(I,Q)::tail))) h→Ev prog w A' (envF (addeSt true) (addeQ true) L (addeFn true) cd) h (.Subscript (.Attribute (.Name "self" p1) "_pred" p2) (.Name "v" p3) p4) (.val (.ref (q v))):=fun S=>by
     obtain⟨od,hod,hil⟩:=S.mem (i:=2) rfl
     obtain⟨oA,hoA,mA⟩:=S.mem (i:=5) rfl
     exact .subM (k:=v) (.attr (.name O S 0 rfl rfl) (.own (F.inK.le hle1 |>.in S) (F.gr.cls true) (own _ (by simp)) (instAt (S.keep _ _ (hle1 _ _ hox)) hpl.1 hpl.2.1 hpl.2.2.1 hod) hil rfl rfl)) (.name O S 6 rfl rfl) hoA mA (if_pos hv)
    have shortU:(kv u).length≤100:=by
     have:=(G1.out u hu).short dR5
     exact nt176 hn this
    refine Cd.storeD (j:=6+(n - 1 - u)) S10 (hju (f:=[_,_,_,_,_,_])) (.name O S10 8 rfl rfl) (eSucc S10) (.name O S10 6 rfl rfl) shortU fun h11 S11=>?_
    generalize hkv1:updF kv u (stored (kv u) (v:Int) (.ref a))=kv1
    let v_15:List AV:=[.val (.ref net),.val (.ref le),.val (.ref da),.val (.ref te),.int 3,.int (u:Nat),.int (v:Nat),.val (.ref dd),.val (.ref a)]
    let t_15:List (Addr×OP):=(da,isEmptyO)::(dn,InsD (instL true gd nd ad pd))::(nd,MapO prog w n (nodesA n))::(ad,MapO prog w n (rowsA r n))::(pd,MapO prog w n (rowsA q n))::(rowL prog w r kv1 n++(rowL prog w q qv n++(I,Q)::tail))
    have S11:St B1 ((L,FrameO nmEd v_15)::t_15) h11:=by
     have e:=mid_set (f:=[(L,FrameO nmEd [.val (.ref net),.val (.ref le),.val (.ref da),.val (.ref te),.int 3,.int (u:Nat),.int (v:Nat),.val (.ref dd),.val (.ref a)]),(da,isEmptyO),(dn,InsD (instL true gd nd ad pd)),(nd,MapO prog w n (nodesA n)),(ad,MapO prog w n (rowsA r n)),(pd,MapO prog w n (rowsA q n))]) (m:=rowL prog w r kv n) (t:=(rowL prog w q qv n++(I,Q)::tail)) (i:=n - 1 - u) (x:=(r u,DictO prog w (stored (kv u) (v:Int) (.ref a)))) (by rw [rowL_len];exact nt148 hu)
     rw [rowL_set hu,hkv1] at e
     exact Eq.mp (congrArg (fun l=>St B1 l h11) e) S11
    have hjv:((L,FrameO nmEd [.val (.ref net),.val (.ref le),.val (.ref da),.val (.ref te),.int 3,.int (u:Nat),.int (v:Nat),.val (.ref dd),.val (.ref a)])::(da,isEmptyO)::(dn,InsD (instL true gd nd ad pd))::(nd,MapO prog w n (nodesA n))::(ad,MapO prog w n (rowsA r n))::(pd,MapO prog w n (rowsA q n))::(rowL prog w r kv1 n++(rowL prog w q qv n++(I,Q)::tail)))[6+(n+(n - 1 - v))]?=some (q v,DictO prog w (qv v)):=by
     have e:=mid_get2 (f:=[(L,FrameO nmEd [.val (.ref net),.val (.ref le),.val (.ref da),.val (.ref te),.int 3,.int (u:Nat),.int (v:Nat),.val (.ref dd),.val (.ref a)]),(da,isEmptyO),(dn,InsD (instL true gd nd ad pd)),(nd,MapO prog w n (nodesA n)),(ad,MapO prog w n (rowsA r n)),(pd,MapO prog w n (rowsA q n))]) (m1:=rowL prog w r kv1 n) (m:=rowL prog w q qv n) (t:=(I,Q)::tail) (rowL_get hv)
     rw [rowL_len] at e
     exact e
    obtain⟨oR11,hoR11,dR11⟩:=S11.mem hjv
    have shortV:(qv v).length≤100:=by
     have:=(G1.inn rfl v hv).short dR11
     exact nt176 hn this
    refine Cd.storeD S11 hjv (.name O S11 8 rfl rfl) (ePred S11) (.name O S11 5 rfl rfl) shortV fun h12 S12=>?_
    generalize hqv1:updF qv v (stored (qv v) (u:Int) (.ref a))=qv1
    let v_16:List AV:=[.val (.ref net),.val (.ref le),.val (.ref da),.val (.ref te),.int 3,.int (u:Nat),.int (v:Nat),.val (.ref dd),.val (.ref a)]
    let t_16:List (Addr×OP):=(da,isEmptyO)::(dn,InsD (instL true gd nd ad pd))::(nd,MapO prog w n (nodesA n))::(ad,MapO prog w n (rowsA r n))::(pd,MapO prog w n (rowsA q n))::(rowL prog w r kv1 n++(rowL prog w q qv1 n++(I,Q)::tail))
    have S12:St B1 ((L,FrameO nmEd v_16)::t_16) h12:=by
     have e:=mid_set2 (f:=[(L,FrameO nmEd [.val (.ref net),.val (.ref le),.val (.ref da),.val (.ref te),.int 3,.int (u:Nat),.int (v:Nat),.val (.ref dd),.val (.ref a)]),(da,isEmptyO),(dn,InsD (instL true gd nd ad pd)),(nd,MapO prog w n (nodesA n)),(ad,MapO prog w n (rowsA r n)),(pd,MapO prog w n (rowsA q n))]) (m1:=rowL prog w r kv1 n) (m:=rowL prog w q qv n) (t:=(I,Q)::tail) (i:=n - 1 - v) (x:=(q v,DictO prog w (stored (qv v) (u:Int) (.ref a)))) (by rw [rowL_len];exact nt148 hv)
     rw [rowL_set hv,hqv1,rowL_len] at e
     exact Eq.mp (congrArg (fun l=>St B1 l h12) e) S12
    refine Cd.nil ⟨B1,_,[.val (.ref net),.val (.ref le),.val (.ref da),.val (.ref te),.int 3,.int (u:Nat),.int (v:Nat),.val (.ref dd),.val (.ref a)],?_,.b (congrArg (· +1) h0) hle1 kv1 qv1 rfl ⟨fun k hk=>?_,fun _ k hk=>?_⟩⟩
    ·rw [List.cons_append,gFr_true];exact S12
    ·rw [←hkv1]
     by_cases q2:k=u
     ·subst k
      rw [show updF kv u (stored (kv u) (v:Int) (.ref a)) u=stored (kv u) (v:Int) (.ref a)from if_pos rfl]
      refine((G1.out u hk).put he hv ha dO amod).congr fun x=>?_
      unfold addE
      rw [if_pos rfl]
     ·rw [show updF kv u (stored (kv u) (v:Int) (.ref a)) k=kv k from if_neg q2]
      refine(G1.out k hk).congr fun x=>?_
      unfold addE
      rw [if_neg q2,if_neg fun q=>nomatch q.1]
    ·rw [←hqv1]
     by_cases q2:k=v
     ·subst k
      rw [show updF qv v (stored (qv v) (u:Int) (.ref a)) v=stored (qv v) (u:Int) (.ref a)from if_pos rfl]
      refine((G1.inn rfl v hk).put he hu ha dO amod).congr fun x=>?_
      unfold addE updF
      by_cases q3:x=u
      ·rw [if_pos q3,if_pos q3,if_pos rfl]
      ·rw [if_neg q3,if_neg q3,if_neg fun q=>nomatch q.1]
     ·rw [show updF qv v (stored (qv v) (u:Int) (.ref a)) k=qv k from if_neg q2]
      refine(G1.inn rfl k hk).congr fun x=>?_
      unfold addE updF
      by_cases q3:x=u
      ·rw [if_pos q3,if_neg q2,q3]
      ·rw [if_neg q3,if_neg fun q=>nomatch q.1]
   ·rintro B' front avs h2 (⟨q0,_⟩ | ⟨_,hle,kv',qv',rfl,G'⟩) S2
    ·contradiction
    ·exact Cd.nil ⟨rfl,B',kv',qv',hle,S2.drop0.drop0,G'⟩
end
end
section
set_option tactic.hygienic false
open PySem PySem.W PyProof.Rows
variable [GenI]
section
variable {prog:Program} {w:World} {h:Heap} {B:PM} {ms:List (Addr×OP)}
theorem St.freezeList:∀{l:List (Addr×OP)} {B:PM},St B (l++ms) h→∃B',B.le B'∧St B' ms h∧∀p∈l,∃o,B' p.1=some o∧p.2 o
 | [],B,S=>⟨B,PM.le_refl B,S,fun p hp=>absurd hp List.not_mem_nil⟩
 | (a,P)::l,B,S=>by
  obtain⟨o,ho,hP⟩:=S.own (a,P) (.head _)
  have hle:=PM.le_put (o:=o) (S.off (a,P) (.head _))
  obtain⟨B',hle2,S2,hl⟩:=St.freezeList (l:=l) (S.freeze0 ho)
  refine⟨B',PM.le_trans hle hle2,S2,fun p hp=>?_⟩
  rcases List.mem_cons.mp hp with rfl | hp
  ·exact⟨o,hle2 _ _ PM.put_self,hP⟩
  ·exact hl p hp
theorem mem_rowL {r:Nat→Addr} {kv:Nat→List (Int×Value)} {i k:Nat} (hk:k<i):(r k,DictO prog w (kv k))∈rowL prog w r kv i:=List.mem_of_getElem? (rowL_get hk)
theorem RowK.rowB {n a} {e kvs} {o:Obj} (r:RowK prog w B n e kvs) (h:B a=some o) (hd:DictO prog w kvs o):RowB prog w B a n e kvs:=⟨⟨o,h,hd⟩,r.sound,r.full⟩
theorem freezeGr {dir:Bool} {net dn gd nd ad pd n:Nat} {ox:Obj} {E:EdR} {r q:Nat→Addr} {kv qv:Nat→List (Int×Value)} {tail:List (Addr×OP)} (hox:B net=some ox) (hpl:PlainO (clsOf dir) dn (fun _=>True) ox)
  (G:GRows prog w B dir n E kv qv) (hsym:dir=false→∀u v,E u v=E v u) (S:St B (gFr prog w dir n dn (instL dir gd nd ad pd) nd ad pd n r kv q qv++tail) h):
  ∃B',B.le B'∧GrB prog w B' dir net dn n E (instL dir gd nd ad pd)∧St B' ((dn,InsD (instL dir gd nd ad pd))::tail) h:=by
 have S1:St B ((((nd,MapO prog w n (nodesA n))::(ad,MapO prog w n (rowsA r n))::((if dir then [(pd,MapO prog w n (rowsA q n))] else [])++(rowL prog w r kv n++(if dir then rowL prog w q qv n else [])))))++(dn,InsD (instL dir gd nd ad pd))::tail) h:=S.perm (by
  unfold gFr
  exact List.perm_middle)
 obtain⟨B',hle,S2,hl⟩:=S1.freezeList
 have nm:∀{a P},(a,P)∈((nd,MapO prog w n (nodesA n))::(ad,MapO prog w n (rowsA r n))::((if dir then [(pd,MapO prog w n (rowsA q n))] else [])++(rowL prog w r kv n++(if dir then rowL prog w q qv n else []))))→(a == sysModules)=false:=fun {a P} hp=>by
  obtain⟨i,hi⟩:=List.mem_iff_getElem?.mp (List.mem_append_left ((dn,InsD (instL dir gd nd ad pd))::tail) hp)
  exact S1.notMods hi
 have G':=G.le hle
 refine⟨B',hle,⟨⟨ox,hle _ _ hox,hpl⟩,?_,?_,?_,hsym,?_⟩,S2⟩
 ·obtain⟨o,ho,hm⟩:=hl (nd,MapO prog w n (nodesA n)) (by simp)
  exact⟨nd,o,by cases dir <;> rfl,ho,nm (P:=MapO prog w n (nodesA n)) (by simp),hm⟩
 ·obtain⟨o,ho,hm⟩:=hl (ad,MapO prog w n (rowsA r n)) (by simp)
  refine⟨ad,by cases dir <;> rfl,⟨r,o,ho,hm,fun k hk=>?_⟩,fun hd=>by subst hd;rfl⟩
  have hmem:=mem_rowL (prog:=prog) (w:=w) (r:=r) (kv:=kv) hk
  obtain⟨ok,hok,hdk⟩:=hl (r k,DictO prog w (kv k)) (by simp [hmem])
  exact⟨nm (P:=DictO prog w (kv k)) (by simp [hmem]),kv k,(G'.out k hk).rowB hok hdk⟩
 ·intro hd
  subst hd
  obtain⟨o,ho,hm⟩:=hl (pd,MapO prog w n (rowsA q n)) (by simp)
  refine⟨pd,rfl,⟨q,o,ho,hm,fun k hk=>?_⟩⟩
  have hmem:=mem_rowL (prog:=prog) (w:=w) (r:=q) (kv:=qv) hk
  obtain⟨ok,hok,hdk⟩:=hl (q k,DictO prog w (qv k)) (by simp [hmem])
  exact⟨nm (P:=DictO prog w (qv k)) (by simp [hmem]),qv k,(G'.inn rfl k hk).rowB hok hdk⟩
 ·intro x hx
  simp only [List.mem_cons,List.not_mem_nil,or_false] at hx
  rcases hx with rfl | rfl | rfl | rfl <;> (cases dir <;> rfl)
end
end
section
set_option tactic.hygienic false
open PySem PySem.W PyProof.Rows
variable [GenI]
noncomputable abbrev lstO (ys:List Value):OP:=fun o=>o=LCg.lst ys
theorem compEnv_ok {scope:Scope} {cl:List (Str×Addr)} {C L:Addr} {env:Env} {nms:List Str} {x:Str} (O:EnvOk env L nms) (hkind:scope.kind = .function) (hx:scope.names.lookup x=some .local):EnvOk (compEnvC scope cl C env) C [x]:=
 ⟨rfl,hkind,by
  have e:List.lookup x (compEnvC scope cl C env).scope.names=some .local:=lookup_relabel_local hx
  simp [e],O.glob,O.bi⟩
section
variable {prog:Program} {w:World} {A:Around} {env:Env} {h:Heap} {X:Value→Heap→Prop} {P:Value→Heap→Prop} {B:PM} {L:Addr} {nms:List Str} {pos:Pos}
inductive CompP (C:Addr) (x:Str) (i:Nat) (tl:List (Addr×OP)) (J:PM→List (Addr×OP)→List Value→Prop) (ys:List Value) (v:Value) (h':Heap):Prop
 | mk (B:PM) (front:List (Addr×OP)) (S:St B ((C,FrameO [x] [.int i])::(front++tl)) h') (j:J B front (ys++[v]))
inductive CompH (n:Nat) (T:List (Addr×OP)) (J:PM→List (Addr×OP)→List Value→Prop) (xv:Value) (h1:Heap):Prop
 | mk (B:PM) (front:List (Addr×OP)) (r:Addr) (t u v:Tok) (e:xv = .ref r) (hr:IsRange h1 r 0 n 1 t u v) (S:St B (front++T) h1) (j:J B front [])
inductive CompI (C D I:Addr) (x:Str) (n:Nat) (T:List (Addr×OP)) (J:Nat→PM→List (Addr×OP)→List Value→Prop) (d:Drawn) (os:OsState) (k:Nat) (s:Shared):Prop
 | mk (h:Heap) (g:Array GenState) (tk i:Nat) (B:PM) (front:List (Addr×OP)) (ys:List Value) (e:s=⟨h,g,d,tk,os⟩) (hg:GenI.ok g) (hi:i≤n) (hk:k=n+1 - i) (hy:ys.length=i) (it:IsRangeIter h I (0+(i:Nat)*1) ((n:Int) - (i:Nat)) 1) (j:J i B front ys) (S:St B ((C,FrameO [x] [.any])::(front++(I,fun _=>True)::(D,lstO ys)::T)) h)
theorem comp_block {elt iter:PySem.Expr} {x:Str} {px:Pos} {scope:Scope} {cl:List (Str×Addr)} {front tail:List (Addr×OP)} {r:Addr} {t u v:Tok} {n:Nat} {RR:Value→Addr→Result→Shared→Prop} {E:Value→Shared→Prop}
  {g:Array GenState} {d:Drawn} {tk:Nat} {os:OsState}
  (hh:A.handled=none) (hn:n≤1000) (hg:GenI.ok g) (O:EnvOk env L nms)
  (hcell:∀y∈scope.names,y.2≠ .cell) (hkind:scope.kind = .function) (hx:scope.names.lookup x=some .local)
  (S:St B (front++tail) h) (hr:IsRange h r 0 n 1 t u v)
  (J:Nat→PM→List (Addr×OP)→List Value→Prop) (hJ:J 0 B front [])
  (turn:∀i B front ys C I D q h,i<n→ys.length=i→J i B front ys→St B ((C,FrameO [x] [.int i])::(front++(I,q)::(D,lstO ys)::tail)) h→
   Tr prog w A (eval elt (compEnvC scope cl C env)) h (CompP C x i ((I,q)::(D,lstO ys)::tail) (J (i+1)) ys) noX)
  (hRR:∀D C B front ys h g tk,GenI.ok g→ys.length=n→J n B front ys→St B ((C,FrameO [] [])::(D,lstO ys)::(front++tail)) h→RR (.ref D) C (.ok .next) ⟨h,g,d,tk,os⟩):
  wpAny (model prog w) A (pyIter (.ref r)) (fun it s₁=>wpAny (model prog w) A (newList []) (fun acc s₃=>wpAny (model prog w) A (newFunctionEnv scope env.globals cl [] env.qual none .none (some env)) (fun cenv s₄=>
   codeAny (model prog w) A (.compStart (.ListComp elt [⟨.Name x px,iter,[],0⟩] scope pos) 0 it acc { cenv with scope:=relabel scope env}) (RR acc cenv.locals) s₄) E s₃) E s₁) E ⟨h,g,d,tk,os⟩:=by
 have hsz:Builtin.Range.rangeSize 0 (n:Int) 1=((n:Nat):Int):=by rw [rangeSize_one];split <;> lia
 refine wpAny_pyIter_range hr (small_one (by lia) (by lia) (by lia) (by lia)) ?_
 rw [hsz]
 have SI:=S.pushM (o:={ cls:= .type "range_iterator",data:= .fields #[rawInt 0,rawInt (n:Nat),rawInt 1]}) (P:=fun o=>o = { cls:= .type "range_iterator",data:= .fields #[rawInt 0,rawInt (n:Nat),rawInt 1]}) rfl
 show wpAny _ _ _ _ _ ⟨h.push { cls:= .type "range_iterator",data:= .fields #[rawInt 0,rawInt (n:Nat),rawInt 1]},g,d,tk,os⟩
 have hI0:IsRangeIter (h.push { cls:= .type "range_iterator",data:= .fields #[rawInt 0,rawInt (n:Nat),rawInt 1]}) h.objs.size 0 n 1:=Heap.get?_push_size _ rfl
 generalize h.objs.size=I at SI hI0 ⊢
 generalize h.push { cls:= .type "range_iterator",data:= .fields #[rawInt 0,rawInt (n:Nat),rawInt 1]} =h1 at SI hI0 ⊢
 refine wpAny_newObj_type (wpAny_newFunctionEnv hcell (by intro y hy;simp at hy) (fun h₁ hns₁ hsb₁=>?_) hkind)
 dsimp only at hns₁ hsb₁ ⊢
 have SD:=SI.pushM (o:={ cls:= .type "list",dict:=none,data:= .seq ([]:List Value).toArray}) (P:=lstO []) rfl
 have hI1:IsRangeIter (h1.push { cls:= .type "list",dict:=none,data:= .seq ([]:List Value).toArray}) I 0 n 1:=Heap.get?_push_of_some _ hI0
 generalize h1.objs.size=D at SD ⊢
 generalize h1.push { cls:= .type "list",dict:=none,data:= .seq ([]:List Value).toArray} =h2 at SD hns₁ hsb₁ hI1 ⊢
 have hCn:h2.get? h2.objs.size=none:=St.push_none h2
 have old:∀b o,h2.get? b=some o→h₁.get? b=some o:=fun b o e=>hsb₁.extBut b o (Nat.ne_of_lt (Heap.lt_size e)) (Heap.get?_push_of_some _ e)
 have hI2:IsRangeIter h₁ I 0 n 1:=old _ _ hI1
 obtain⟨oC,hoC,hnC⟩:=ns_iff.mp hns₁
 have SC:=SD.newM (P:=FrameO [x] [.any]) hCn old hoC ⟨_,hnC,.cons trivial .nil⟩ SD.size2
 generalize h2.objs.size=C at SC ⊢
 have S0:St B ((C,FrameO [x] [.any])::(front++(I,fun _=>True)::(D,lstO [])::tail)) h₁:=by
  refine(SC.weakAll (ms':=(C,FrameO [x] [.any])::(D,lstO [])::(I,fun _=>True)::(front++tail)) rfl fun p hp=>?_).perm ?_
  ·rcases List.mem_cons.mp hp with rfl | hp
   ·exact SC.own _ (.head _)
   ·rcases List.mem_cons.mp hp with rfl | hp
    ·exact SC.own _ (.tail _ (.head _))
    ·rcases List.mem_cons.mp hp with rfl | hp
     ·exact⟨_,hI2,trivial⟩
     ·exact SC.own _ (.tail _ (.tail _ (.tail _ hp)))
  ·exact List.Perm.cons _ (List.perm_middle.trans ((List.Perm.cons _ List.perm_middle).trans (List.Perm.swap ..)))
 have enough:∀tk,codeAny (model prog w) A (.compLoop (.ListComp elt [⟨.Name x px,iter,[],0⟩] scope pos) 0 (.ref I) (.ref D) (compEnvC scope cl C env)) (RR (.ref D) C) ⟨h₁,g,d,tk,os⟩:=by
  intro tk
  refine codeAny_compLoop_tests
   (CompI C D I x n tail J d os) ?_ (n+1)
   ⟨h₁,g,tk,0,B,front,[],rfl,hg,Nat.zero_le _,rfl,rfl,by simpa using hI2,hJ,S0⟩
  ·rintro k s' ⟨h,g,tk,i,B,front,ys,rfl,hg,hi,rfl,hyl,hit,hJ,S⟩
   have W:=Walks.range (prog:=prog) (w:=w) (A:=A) hh I 0 1 n
   by_cases hlt:i<n
   ·refine W.item i _ _ _ hlt hit fun v h3 tk3 hPv hst3 hk3=>?_
    obtain⟨tv,rfl⟩:=hPv
    have S3:St B ((C,FrameO [x] [.any])::(front++(I,fun o=>o = { cls:= .type "range_iterator",dict:=none,data:= .fields #[rawInt (0+((i+1:Nat):Int)*1),rawInt ((n:Int) - ((i+1:Nat):Int)),rawInt 1],slots:= #[]})::(D,lstO ys)::tail)) h3:=
     St.updMid (f:=(C,FrameO [x] [.any])::front) (P:=fun _=>True) S (fun b o hb e=>hk3 b o (by simpa using hb) e) hst3 rfl
    refine wpAny_assign_Name (store_at (compEnv_ok O hkind hx) S3 (i:=0) rfl (av:= .int (i:Nat)) ⟨tv,by simp⟩ (by simp) fun h4 tk4 S4=>?_)
    refine wpAny_tests_nil ?_
    simp only [if_true]
    have S4:St B ((C,FrameO [x] [.int (i:Nat)])::(front++(I,fun o=>o = { cls:= .type "range_iterator",dict:=none,data:= .fields #[rawInt (0+((i+1:Nat):Int)*1),rawInt ((n:Int) - ((i+1:Nat):Int)),rawInt 1],slots:= #[]})::(D,lstO ys)::tail)) h4:=S4
    refine turn i B front ys C I D _ h4 hlt hyl hJ S4 g d tk4 os _ _ hg (fun y h5 g5 tk5 hg5 z=>?_) (fun _ _ _ _ _ z=>z.elim)
    obtain⟨B',front',S5,hJ'⟩:=z
    have S5':St B' ((C,FrameO [x] [.int (i:Nat)])::(front'++(D,lstO ys)::(I,fun o=>o = { cls:= .type "range_iterator",dict:=none,data:= .fields #[rawInt (0+((i+1:Nat):Int)*1),rawInt ((n:Int) - ((i+1:Nat):Int)),rawInt 1],slots:= #[]})::tail)) h5:=
     S5.perm (List.Perm.cons _ (List.Perm.append_left _ (List.Perm.swap ..)))
    obtain⟨oD,hoD,eD⟩:=St.getMid (f:=(C,FrameO [x] [.int (i:Nat)])::front') S5'
    have eD':oD=LCg.lst ys:=eD
    subst eD'
    refine append_at (hsz:=by show ys.toArray.size≤sizeLine;rw [List.size_toArray,hyl];exact Nat.le_trans hi (Nat.le_trans hn (by decide))) hoD fun h6 hs6 hD6=>?_
    have S6:St B' ((C,FrameO [x] [.int (i:Nat)])::(front'++(D,lstO (ys++[y]))::(I,fun o=>o = { cls:= .type "range_iterator",dict:=none,data:= .fields #[rawInt (0+((i+1:Nat):Int)*1),rawInt ((n:Int) - ((i+1:Nat):Int)),rawInt 1],slots:= #[]})::tail)) h6:=
     St.updMid (f:=(C,FrameO [x] [.int (i:Nat)])::front') S5' (fun b o hb e=>hs6.extBut b o hb e) hD6 (LCg.lst_snoc ys y)
    obtain⟨oI,hoI,eI⟩:=S6.own (I,_) (.tail _ (List.mem_append_right _ (.tail _ (.head _))))
    refine⟨n+1 - (i+1),by exact nt13 hsz hyl hlt,h6,g5,tk5,i+1,B',front',ys++[y],rfl,hg5,hlt,rfl,by rw [List.length_append,List.length_singleton,hyl],?_,hJ',?_⟩
    ·have eI':oI=_:=eI
     rw [eI'] at hoI
     exact hoI
    ·refine(S6.perm (List.Perm.cons _ (List.Perm.append_left _ (List.Perm.swap ..)))).weakAll (by simp) fun p hp=>?_
     have own:=S6.own
     simp only [List.mem_cons,List.mem_append] at hp
     rcases hp with rfl | hp | rfl | rfl | hp
     ·obtain⟨o,ho,m,q1,q2⟩:=S6.own (C,FrameO [x] [.int (i:Nat)]) (.head _)
      exact⟨o,ho,m,q1,.cons trivial .nil⟩
     ·exact own p (.tail _ (List.mem_append_left _ hp))
     ·exact⟨oI,hoI,trivial⟩
     ·exact own _ (.tail _ (List.mem_append_right _ (.head _)))
     ·exact own p (.tail _ (List.mem_append_right _ (.tail _ (.tail _ hp))))
   ·obtain rfl:i=n:=Nat.le_antisymm hi (Nat.not_lt.mp hlt)
    refine W.done _ _ _ hit fun h3 tk3 hk3=>?_
    have S3:St B ((C,FrameO [x] [.any])::(front++(D,lstO ys)::tail)) h3:=
     St.dropUpd (f:=(C,FrameO [x] [.any])::front) S (fun b o hb e=>hk3 b o (by simpa using hb) e)
    refine hRR D C B front ys h3 g tk3 hg hyl hJ ((S3.perm (List.Perm.cons _ List.perm_middle.symm)).weakAll (by rfl) fun p hp=>?_)
    rcases List.mem_cons.mp hp with rfl | hp
    ·obtain⟨o,ho,m,q1,q2⟩:=S3.own (C,FrameO [x] [.any]) (.head _)
     exact⟨o,ho,m,q1,.nil⟩
    ·exact S3.own p (.tail _ (List.perm_middle.symm.mem_iff.mp hp))
 exact codeAny_compStart_list (enough _) ((Walks.range hh I 0 1 n).self 0 _ _ _ (by simpa using hI2) (enough _))
end
end
section
set_option tactic.hygienic false
open PySem PySem.W PyProof.Rows
variable [GenI]
section
variable {prog:Program} {w:World} {A:Around} {env:Env} {h:Heap} {X:Value→Heap→Prop} {L:Addr} {nms:List Str} {pos:Pos}
theorem Tr.listComp {P:Value→Heap→Prop} {elt iter:PySem.Expr} {x:Str} {px:Pos} {scope:Scope} {tail:List (Addr×OP)} (cl:List (Str×Addr)) (n:Nat) (J:Nat→PM→List (Addr×OP)→List Value→Prop)
  (hh:A.handled=none) (hn:n≤1000) (O:EnvOk env L nms)
  (hclos:closureFor scope env=Pure.pure cl)
  (hit:Tr prog w A (eval iter env) h (CompH n tail (J 0)) X)
  (turn:∀i B front ys C I D q h,i<n→ys.length=i→J i B front ys→St B ((C,FrameO [x] [.int i])::(front++(I,q)::(D,lstO ys)::tail)) h→EnvOk (compEnvC scope cl C env) C [x]→
   Tr prog w A (eval elt (compEnvC scope cl C env)) h (CompP C x i ((I,q)::(D,lstO ys)::tail) (J (i+1)) ys) noX)
  (fin:∀D B front ys h,ys.length=n→J n B front ys→St B ((D,lstO ys)::(front++tail)) h→P (.ref D) h)
  (hcell:∀y∈scope.names,y.2≠ .cell:=by decide) (hkind:scope.kind = .function:=by rfl) (hnames:∀y∈scope.names,y.2 = .local→scope.names.lookup y.1=some .local:=by decide) (hx:scope.names.lookup x=some .local:=by rfl)
  (hs:∀x,foldedSetIterable iter env x=Pure.pure x:=by intro _;rfl):
  Tr prog w A (eval (.ListComp elt [⟨.Name x px,iter,[],0⟩] scope pos) env) h P X:=by
 intro g d tk os Q E hg hq he
 rw [eval_ListComp]
 refine wpAny_comprehension_free (use:=none) rfl hs hclos hkind hnames (hit g d tk os _ E hg (fun xv h1 g1 tk1 hg1 z=>?_) he)
 obtain⟨B,front,r,t,u,v,rfl,hr,S,hJ⟩:=z
 refine comp_block hh hn hg1 O hcell hkind hx S hr J hJ (fun i B front ys C I D q h a1 a2 a3 a4=>turn i B front ys C I D q h a1 a2 a3 a4 (compEnv_ok O hkind hx)) fun D C B front ys h2 g2 tk2 hg2 hy hJ2 S2=>?_
 obtain⟨oC,hoC,m,hm,_⟩:=S2.mem (i:=0) rfl
 refine⟨m,ns_iff.mpr ⟨oC,hoC,hm⟩,fun h' hs'=>?_⟩
 exact hq _ _ _ _ hg2 (fin D B front ys h' hy hJ2 (St.dropUpd (f:=[]) S2 fun b o hb e=>hs'.extBut b o hb e))
theorem Cd.assignComp {P:Flow→Heap→Prop} {rest:List Stmt} {elt iter:PySem.Expr} {x y:Str} {px py:Pos} {cpos:Pos} {scope:Scope} {avs:List AV} {tail:List (Addr×OP)} (cl:List (Str×Addr)) (n:Nat) (J:Nat→PM→List (Addr×OP)→List Value→Prop)
  (hh:A.handled=none) (hn:n≤1000) (O:EnvOk env L nms) (iy:Nat) (hy:nms[iy]?=some y)
  (hsw:swapsWith (.ListComp elt [⟨.Name x px,iter,[],0⟩] scope cpos) (some (.Name y py)) pos.line env=Pure.pure true)
  (hclos:closureFor scope env=Pure.pure cl)
  (hit:Tr prog w A (eval iter env) h (CompH n ((L,FrameO nms avs)::tail) (J 0)) X)
  (turn:∀i B front ys C I D q h,i<n→ys.length=i→J i B front ys→St B ((C,FrameO [x] [.int i])::(front++(I,q)::(D,lstO ys)::(L,FrameO nms avs)::tail)) h→EnvOk (compEnvC scope cl C env) C [x]→
   Tr prog w A (eval elt (compEnvC scope cl C env)) h (CompP C x i ((I,q)::(D,lstO ys)::(L,FrameO nms avs)::tail) (J (i+1)) ys) noX)
  (fin:∀D B front ys h,ys.length=n→J n B front ys→St B ((L,FrameO nms (avs.set iy (.val (.ref D))))::(D,lstO ys)::(front++tail)) h→Tr prog w A (execs rest env) h P X)
  (hnd:nms.Nodup:=by decide)
  (hcell:∀y∈scope.names,y.2≠ .cell:=by decide) (hkind:scope.kind = .function:=by rfl) (hnames:∀y∈scope.names,y.2 = .local→scope.names.lookup y.1=some .local:=by decide) (hx:scope.names.lookup x=some .local:=by rfl)
  (hs:∀x,foldedSetIterable iter env x=Pure.pure x:=by intro _;rfl):
  Tr prog w A (execs (.Assign [.Name y py] (.ListComp elt [⟨.Name x px,iter,[],0⟩] scope cpos) pos::rest) env) h P X:=by
 intro g d tk os Q E hg hq he
 refine wpAny_execs_cons ?_
 rw [exec_Assign_Name_used _ _ _ _ hsw]
 refine wpAny_bind (wpAny_standAt (wpAny_bind ?_))
 show wpAny _ A (do let _ ←comprehension (.ListComp elt [⟨.Name x px,iter,[],0⟩] scope cpos) scope env _ (newList []) false (eval iter env) (some (PySem.assign (.Name y py) env))) _ _ _
 refine wpAny_bind (wpAny_comprehension_free (use:=some (PySem.assign (.Name y py) env)) rfl hs hclos hkind hnames (hit g d tk os _ E hg (fun xv h1 g1 tk1 hg1 z=>?_) he))
 obtain⟨B,front,r,t,u,v,rfl,hr,S,hJ⟩:=z
 refine comp_block hh hn hg1 O hcell hkind hx S hr J hJ (fun i B front ys C I D q h a1 a2 a3 a4=>turn i B front ys C I D q h a1 a2 a3 a4 (compEnv_ok O hkind hx)) fun D C B front ys h2 g2 tk2 hg2 hy2 hJ2 S2=>?_
 have S3:St B ((L,FrameO nms avs)::(C,FrameO [] [])::(D,lstO ys)::(front++tail)) h2:=
  S2.perm (List.perm_middle (l₁:=(C,FrameO [] [])::(D,lstO ys)::front) (l₂:=tail) (a:=(L,FrameO nms avs))).symm
 show wpAny _ A (PySem.assign (.Name y py) env (.ref D)) _ _ _
 refine wpAny_assign_Name (store_at O S3 hy (av:= .val (.ref D)) rfl hnd fun h3 tk3 S4=>?_)
 obtain⟨oC,hoC,m,hm,_⟩:=S4.mem (i:=1) rfl
 refine⟨m,ns_iff.mpr ⟨oC,hoC,hm⟩,fun h' hs'=>?_⟩
 refine wpAny_pure (wpAny_pure ?_)
 exact fin D B front ys h' hy2 hJ2 (St.dropUpd (f:=[(L,FrameO nms (avs.set iy (.val (.ref D))))]) S4 fun b o hb e=>hs'.extBut b o hb e) g2 d _ os Q E hg2 hq he
end
end
section
set_option tactic.hygienic false
open PySem PySem.W PyProof.Rows
variable [GenI]
section
variable {prog:Program} {w:World} {A:Around} {env:Env} {h:Heap} {X:Value→Heap→Prop} {B:PM} {ms:List (Addr×OP)} {L:Addr} {nms:List Str} {avs:List AV} {pos:Pos} {K:Frag}
theorem Ev.mod {l r:PySem.Expr} {a b:Int} (hl:Ev prog w A env h l (.int a)) (hr:Ev prog w A env h r (.int b)) (hb:b≠0):Ev prog w A env h (.BinOp l .Mod r pos) (.int (a.fmod b)):=
 .bin hl hr fun _ _ _ _ _ _ va vb ⟨_,ha⟩ ⟨_,hb'⟩ hq=>by subst ha hb';exact mod_int' hb (hq _ _ ⟨_,rfl⟩)
theorem Ev.fdiv {l r:PySem.Expr} {a b:Int} (hl:Ev prog w A env h l (.int a)) (hr:Ev prog w A env h r (.int b)) (hb:b≠0) (hs:b.natAbs<1073741824):Ev prog w A env h (.BinOp l .FloorDiv r pos) (.int (a.fdiv b)):=
 .bin hl hr fun _ _ _ _ _ _ va vb ⟨_,ha⟩ ⟨_,hb'⟩ hq=>by subst ha hb';exact floordiv_int hb (hq _ _ ⟨_,rfl⟩) (.inl (PyProof.noPylong_small hs))
theorem Ev.mul {l r:PySem.Expr} {a b:Int} (hl:Ev prog w A env h l (.int a)) (hr:Ev prog w A env h r (.int b)) (ha: -(2 ^ 64)<a) (hb:a<2 ^ 64):Ev prog w A env h (.BinOp l .Mult r pos) (.int (a*b)):=
 .bin hl hr fun _ _ _ _ _ _ va vb ⟨_,ha'⟩ ⟨_,hb'⟩ hq=>by subst ha' hb';exact mul_int (hq _ _ ⟨_,rfl⟩) (IntMulOk.of_left (intBits_le_64 ha hb))
theorem Ev.pow {l r:PySem.Expr} {a:Int} {k:Nat} (hl:Ev prog w A env h l (.int a)) (hr:Ev prog w A env h r (.int (k:Nat))) (ha:a=7∨a=5) (hk:k≤6):Ev prog w A env h (.BinOp l .Pow r pos) (.int (a ^ k)):=
 .bin hl hr fun _ _ _ _ _ _ va vb ⟨_,ha'⟩ ⟨_,hb'⟩ hq=>by
  subst ha' hb'
  have hk':k=0∨k=1∨k=2∨k=3∨k=4∨k=5∨k=6:=nt93 hk
  rcases hk' with rfl | hk'
  ·exact PySem.AutoIntOps.pow_0 (by decide) (by decide) (hq _ _ ⟨_,by rw [Int.pow_zero]⟩)
  ·have e:((k:Nat):Int).toNat=k:=Int.toNat_natCast k
   refine PySem.AutoIntOps.pow_4 (nt91 hk e) (by rcases hk' with rfl | rfl | rfl | rfl | rfl | rfl <;> decide) (by rcases ha with rfl | rfl <;> decide) (by rcases ha with rfl | rfl <;> decide) (by rcases ha with rfl | rfl <;> rcases hk' with rfl | rfl | rfl | rfl | rfl | rfl <;> decide +kernel) ?_
   rw [e]
   exact hq _ _ ⟨_,rfl⟩
theorem Ev.subNeg {e i:PySem.Expr} {xs:Array Value} {a:Addr} {k:Nat} {c:AV} {v:Value} (he:Ev prog w A env h e (.val (.ref a))) (hi:Ev prog w A env h i (.int (-1))) (hl:h.IsList a xs) (hv:xs[xs.size - 1]?=some v) (hc:c.ok v)
  (hsl:∀va vb,subscripted i false va vb=operate [va,vb] (getItem va vb):=by intro _ _;with_unfolding_all rfl):Ev prog w A env h (.Subscript e i pos) c:=by
 refine Ev.sub_ he hi (fun va vb ha hb=>?_)
 have ha':va = .ref a:=ha
 obtain⟨t,rfl⟩:=hb
 subst ha'
 have hpos:0<xs.size:=by
  obtain⟨hlt,_⟩:=Array.getElem?_eq_some_iff.mp hv
  exact nt60 hlt
 exact⟨"list","list.__getitem__",tl_list,fun g' d tk os=>Heap.IsList.typeIs (s:=⟨h,g',d,tk,os⟩) hl,fun _ _ _ _ _ _ hq=>wpAny_getItem_list_neg hl nt0 (nt32 hpos) (by lia) (by rw [show((-1:Int)+xs.size).toNat=xs.size - 1 by exact nt34 hpos];exact hv) (hq v _ hc),hsl _ _⟩
theorem Tr.range1 {n:Nat} {t:Tok} {P:Value→Heap→Prop} (S:St B ms h) (k:∀a h' t u v,St B ms h'→IsRange h' a 0 n 1 t u v→h.get? a=none→(∀b o,h.get? b=some o→h'.get? b=some o)→P (.ref a) h'):Tr prog w A (call (.type "range") [.int (n:Nat) t]) h P X:=by
 intro g d tk os Q E hg hq he
 refine call_range_1 ?_
 exact hq _ _ _ _ hg (k _ _ _ _ _ (S.pushX _) (Heap.get?_push_size _ rfl) (St.push_none h) fun _ _ e=>Heap.get?_push_of_some _ e)
theorem Tr.rangeOf {e:PySem.Expr} {np cp:Pos} {n:Nat} {P:Value→Heap→Prop} (O:EnvOk env L nms) (S:St B ms h) (gR:GName B "range" (.type "range")) (hk:env.kindOf "range" =some .globalImplicit) (he:Ev prog w A env h e (.int (n:Nat)))
  (k:∀a h' t u v,St B ms h'→IsRange h' a 0 n 1 t u v→h.get? a=none→(∀b o,h.get? b=some o→h'.get? b=some o)→P (.ref a) h') (hn:StarE [e] env:=by rfl):Tr prog w A (eval (.Call (.Name "range" np) [e] [] cp) env) h P X:=by
 refine .callName (.g O S gR hk) (.evE he fun v hv=>.evNil ⟨.type,?_⟩) hn
 obtain⟨t,rfl⟩:=hv
 exact .range1 S k
theorem mulRaw {s:Shared} {E:Value→Shared→Prop} {l:Addr} {items:Array Value} {k:Nat} {x:Int} {u:Tok} {Q:Value→Shared→Prop} (hl:s.heap.get? l=some { cls:= .type "list",dict:=none,data:= .seq items k,slots:= #[]}) (hlo: -(2 ^ 63:Int)≤x) (hhi:x<2 ^ 63) (hsz:items.size*x.toNat≤2 ^ 24)
  (h:Q (.ref s.heap.objs.size) { s with heap:=s.heap.push { cls:= .type "list",data:= .seq (List.foldl (fun x1 x2=>x1++x2) #[] (List.replicate (if items.isEmpty=true then 0 else x.toNat) items))}}):wpAny (model prog w) A (binaryOp .Mult (.ref l) (.int x u)) Q E s:=by
 have f1:¬(!Builtin.List.listFitsIndex x)=true:=by simp [Builtin.List.listFitsIndex];lia
 have f2:¬items.size*x.toNat>(2 ^ 63 - 1) / 8:=by lia
 have f3:¬Builtin.List.listTooLong (items.size*x.toNat)=true:=by simp [Builtin.List.listTooLong,sizeLine];omega
 have ht:s.TypeIs (.ref l) "list" :=⟨_,hl,rfl⟩
 refine wpAny_binaryOp_repeat_ref (T:= "list") (U:= "int") (by decide) ht (fun s'=>typeIs_int s' x u) noFill_list_mul PySem.F.fills_int_mul PySem.F.slot_int_rmul repeat_list PySem.F.slot_int_index.lookup ?_
 refine call_meets PySem.F.slot_int_rmul (typeIs_int s x u) PySem.F.entry_int_rmul (PySem.F.args_int_rmul_2 _ _) (int___rmul___int_list x u l items k) ⟨hl,rfl,ht,?_⟩
 exact call_meets PySem.F.slot_list_mul ht PySem.F.entry_list_mul (PySem.F.args_list_mul_2 _ _) (AutoListH.list___mul___list_int_3 l items k x u f1 f2 f3) ⟨hl,h⟩
theorem rep_fold (n:Nat) (x:Value):∀acc:Array Value,List.foldl (fun x1 x2:Array Value=>x1++x2) acc (List.replicate n #[x])=acc++(List.replicate n x).toArray:=by
 induction n with
 | zero=>intro acc;rfl
 | succ n ih=>
  intro acc
  rw [List.replicate_succ,List.foldl_cons,ih,List.replicate_succ]
  apply Array.toList_inj.mp
  simp
theorem Tr.mulList {l:Addr} {x:Value} {n k:Nat} {t:Tok} {P:Value→Heap→Prop} (S:St B ms h) (hl:h.get? l=some { cls:= .type "list",data:= .seq #[x] k}) (hn:n≤100) (k:∀a h',St B ((a,LiO (List.replicate n x))::ms) h'→P (.ref a) h'):Tr prog w A (binaryOp .Mult (.ref l) (.int (n:Nat) t)) h P X:=by
 intro g d tk os Q E hg hq he
 have e:List.foldl (fun x1 x2:Array Value=>x1++x2) #[] (List.replicate (if(#[x]:Array Value).isEmpty=true then 0 else((n:Nat):Int).toNat) #[x])=(List.replicate n x).toArray:=by
  rw [if_neg (by simp),Int.toNat_natCast,rep_fold];simp
 refine mulRaw hl (by lia) (by lia) (by rw [Int.toNat_natCast];show 1*n≤2 ^ 24;lia) ?_
 rw [e]
 exact hq _ _ _ _ hg (k _ _ (S.pushM (P:=LiO (List.replicate n x)) ⟨_,rfl⟩))
theorem Cd.storeL {P:Flow→Heap→Prop} {rest:List Stmt} {o i e:PySem.Expr} {p1:Pos} {k j:Nat} {xs:Array Value} {a:Addr} {av:AV} (S:St B ms h) (hj:ms[j]?=some (a,ListO xs)) (he:Ev prog w A env h e av) (ho:Ev prog w A env h o (.val (.ref a))) (hi:Ev prog w A env h i (.int (k:Nat))) (hk:k<xs.size) (hz:xs.size≤100)
  (hx:∀v h2,av.ok v→St B (ms.set j (a,ListO (xs.setIfInBounds k v))) h2→Tr prog w A (execs rest env) h2 P X)
  (hs:swapsWith e (some (.Subscript o i p1)) pos.line env=Pure.pure false:=by rfl):Tr prog w A (execs (.Assign [.Subscript o i p1] e pos::rest) env) h P X:=by
 intro g d tk os Q E hg hq hE
 refine wpAny_execs_cons (wpAny_Assign_Subscript (he g d tk os _ E fun v tk1 hv=>ho g d tk1 os _ E fun ov tk2 hov=>hi g d tk2 os _ E fun iv tk3 hiv=>?_) hs)
 have ha':ov = .ref a:=hov
 obtain⟨t,rfl⟩:=hiv
 subst ha'
 obtain⟨ob,hob,hc,nn,hd⟩:=S.mem hj
 refine wpAny_setItem_list ⟨ob,hob,hc,nn,hd⟩ nt37 (by lia) (nt135 hk) (fun h' hl' hs'=>?_)
 obtain⟨o',ho',hc',nn',hd'⟩:=hl'
 rw [Int.toNat_natCast] at hd'
 exact hx v h' hv (S.upd hj hs' ho' ⟨hc',nn',hd'⟩) g d _ os Q E hg hq hE
theorem Ev.lenL {e:PySem.Expr} {t:Addr} {xs:Array Value} {np cp:Pos} (O:EnvOk env L nms) (S:St B ms h) (gl:GName B "len" (.builtin "len")) (hk:env.kindOf "len" =some .globalImplicit) (he:Ev prog w A env h e (.val (.ref t))) (ht:h.IsList t xs) (hz:xs.size≤100) (hn:StarE [e] env:=by rfl):
  Ev prog w A env h (.Call (.Name "len" np) [e] [] cp) (.int (xs.size:Nat)):=by
 intro g d tk os Q E hq
 have eg:Ev prog w A env h (.Name "len" np) (.val (.builtin "len")):= .g O S gl hk
 refine wpAny_Call_NameR (eg g d tk os _ E fun v tk' hv=>?_)
 have hv':v = .builtin "len" :=hv
 subst hv'
 rw [backTo_of hn]
 refine callWith_of (P:=fun h=>Kp prog w h (.builtin "len")) (by rw [any_of];rfl) (fun h hh=>hh) ?_
 refine Calls.evalArgs_plain ?_
 show wpAny (model prog w) A (spliced [(false,eval e env)]) _ _ _
 refine Calls.spliced_cons (he g d tk' os _ E fun v tk2 hv=>Calls.spliced_nil ?_)
 have hv':v = .ref t:=hv
 subst hv'
 refine⟨.builtin,?_⟩
 exact PyProof.Rows.len_list (s:=⟨h,g,d,tk2,os⟩) ht (by lia) (hq _ _ ⟨_,rfl⟩)
theorem Tr.sumInts {l:Addr} {xs:Array (Int×Tok)} {P:Value→Heap→Prop} (hh:A.handled=none) (S:St B ms h) (hl:h.IsList l (intItems xs)) (k:∀h' t,St B ms h'→P (.int (preSum (numAt xs) xs.size) t) h'):Tr prog w A (call (.builtin "sum") [.ref l]) h P X:=by
 intro g d tk os Q E hg hq he
 refine sum_intListG (s:=⟨h,g,d,tk,os⟩) hh hl fun h' tk' t' hk=>?_
 exact hq _ _ _ _ hg (k _ _ (S.ext hk))
theorem Ec.noneIn {l:Addr} {items:Array Value} (hl:h.IsList l items) (hi:∀y∈items,y = .none∨∃i t,y = .int i t):Ec prog w A h .In (.val .none) (.val (.ref l)) (items.any (· == Value.none)):=by
 intro g d tk os Q E va vb ha hb hq
 have ha':va = .none:=ha
 have hb':vb = .ref l:=hb
 subst ha' hb'
 refine PySem.SeqAt.in_listAt (s:=⟨h,g,d,tk,os⟩) (fun y=>y == Value.none) hl (fun y hy=>?_) (hq _)
 rcases hi y hy with rfl | ⟨i,t,rfl⟩
 ·exact SeqAt.EqAt.same _
 ·exact SeqAt.EqAt.int_none i t
end
end
section
set_option tactic.hygienic false
open PySem PySem.W PyProof.Rows
variable [GenI]
section
variable {prog:Program} {w:World} {A:Around} {env:Env} {h:Heap} {X:Value→Heap→Prop} {B:PM} {ms:List (Addr×OP)} {L:Addr} {nms:List Str} {avs:List AV} {pos:Pos} {K:Frag}
theorem Tr.asgCell {x:Str} {px:Pos} {c:Addr} {v:Value} {j:Nat} {ov:Option AV} {P:Unit→Heap→Prop} (hk:env.scope.kind = .function) (hl:env.kindOf x=some .cell) (hc:env.cells.lookup x=some c) (S:St B ms h) (hj:ms[j]?=some (c,CellW ov))
  (k:∀h2,St B (ms.set j (c,CellW (some (.val v)))) h2→P () h2):Tr prog w A (PySem.assign (.Name x px) env v) h P X:=by
 intro g d tk os Q E hg hq he
 obtain⟨oc,hoc,v0,hd,_⟩:=S.mem hj
 refine wpAny_assign_Name (wpAny_storeName_cell (hk:=hk) hl hc ⟨oc,hoc,hd⟩ fun h' hcell hs=>?_)
 obtain⟨o',ho',hd'⟩:=hcell
 exact hq _ _ _ _ hg (k h' (S.upd hj hs ho' ⟨_,hd',rfl⟩))
theorem Tr.asgNil {P:Unit→Heap→Prop} (k:P () h):Tr prog w A (assignInOrder [] []) h P X:=fun _ _ _ _ _ _ hg hq _=>wpAny_pure (hq _ _ _ _ hg k)
theorem Tr.asgCons {P:Unit→Heap→Prop} {x:Value→Sem Unit} {xs:List (Value→Sem Unit)} {v:Value} {vs:List Value} (k:Tr prog w A (x v) h (fun _ h1=>Tr prog w A (assignInOrder xs vs) h1 P X) X):Tr prog w A (assignInOrder (x::xs) (v::vs)) h P X:=
 fun g d tk os Q E hg hq he=>wpAny_assignInOrder_more (k g d tk os _ E hg (fun _ h1 g1 tk1 hg1 k1=>k1 g1 d tk1 os Q E hg1 hq he) he)
theorem Cd.tupN {P:Flow→Heap→Prop} {rest:List Stmt} {ts es:List PySem.Expr} {k1 k2:Nat} {pt pv:Pos} (hh:A.handled=none)
  (h1:Tr prog w A (evL es env) h (fun vs h1=>vs.length=ts.length∧vs.length≤100∧∃B ms,St B ms h1∧∀h2,St B ms h2→Tr prog w A (assignInOrder (ts.map fun t=>PySem.assign t env) vs) h2 (fun _ h3=>Tr prog w A (execs rest env) h3 P X) X) X)
  (hn:StarE es env:=by rfl) (ht:assignEach ts env=ts.map fun t=>(false,PySem.assign t env):=by rfl)
  (hs:swapsWithSole [.Tuple ts k1 pt] (.Tuple es k2 pv) pos.line env=Pure.pure false:=by rfl) (hw:swappedStores [.Tuple ts k1 pt] (.Tuple es k2 pv) env=Pure.pure none:=by rfl):
  Tr prog w A (execs (.Assign [.Tuple ts k1 pt] (.Tuple es k2 pv) pos::rest) env) h P X:=by
 intro g d tk os Q E hg hq he
 refine wpAny_execs_cons (Assign_Tuple ((Tr.tupleD (P:=fun v h1=>∃a vs,v = .ref a∧h1.IsTuple a vs.toArray∧vs.length=ts.length∧∃B ms,St B ms h1∧∀h2,St B ms h2→Tr prog w A (assignInOrder (ts.map fun t=>PySem.assign t env) vs) h2 (fun _ h3=>Tr prog w A (execs rest env) h3 P X) X)
  (h1.post fun vs h1 ⟨q1,q2,B,ms,S,k⟩=>⟨few q2,_,vs,rfl,⟨_,Heap.get?_push_size _ rfl,rfl,_,rfl⟩,q1,B,ms,S.pushX _,k⟩) hn) g d tk os _ E hg (fun v h2 g2 tk2 hg2 ⟨a,vs,ev,hT,hlen,B,ms,S,k⟩=>?_) he) hs hw)
 subst ev
 refine wpAny_assign_Tuple hh hT ?_ ?_ fun h' hx'=>?_
 ·rw [ht,List.length_map,List.size_toArray,hlen]
 ·rw [ht,List.findIdx?_eq_none_iff]
  intro p hp
  obtain⟨q,_,rfl⟩:=List.mem_map.mp hp
  rfl
 ·have S2:St B ms h':=S.ext fun b o e=>hx' b o (Nat.ne_of_lt (Heap.lt_size e)) e
  rw [ht,List.map_map]
  exact k h' S2 g2 d _ os _ E hg2 (fun _ h3 g3 tk3 hg3 k3=>k3 g3 d tk3 os Q E hg3 hq he) he
end
end
section
set_option tactic.hygienic false
open PySem PySem.W PyProof.Rows
variable [GenI]
noncomputable def sLaw:Stmt:=topSt 40
noncomputable abbrev nmLaw:List Str:=["numbers","both","start","goal","net","v","w","digit","cost","turn","length","first","second","costs"]
noncomputable abbrev eL (L:Addr):Env:=envC sLaw "law" L 971 (.ref 970)
noncomputable def lw (k:Nat):Stmt:=(fnBody sLaw).getD k (.Pass default)
theorem okLaw {L:Addr}:EnvOk (eL L) L nmLaw:= .ofC (by decide +kernel)
theorem lawBody:fnBody sLaw = [lw 0,lw 1,lw 2,lw 3,lw 4,lw 5,lw 6,lw 7,lw 8,lw 9,lw 10,lw 11,lw 12,lw 13,lw 14,lw 15]:=by rfl
structure LawF (prog:Program) (w:World) (K:Frag) (B:PM):Prop where
 al:AlF prog w K B
 bu:BuildF K B
 fN:∀d,FnAt B (addnFn d) (addnSt d) (addnQ d) .none .none
 fE:∀d,FnAt B (addeFn d) (addeSt d) (addeQ d) .none .none
 mN:∀d,MethF K (clsOf d) "add_nodes_from" (addnFn d)
 mE:∀d,MethF K (clsOf d) "add_edges_from" (addeFn d)
 gLen:GName B "len" (.builtin "len")
 gRange:GName B "range" (.type "range")
 gGraph:GName B "Graph" (.ref 780)
 gDi:GName B "DiGraph" (.ref 949)
 gBd:GName B "bidirectional_dijkstra" (.ref 197)
 gAl:GName B "astar_path_length" (.ref 215)
 gLw:GName B "_law_weight" (.ref 966)
 fBd:∃T oT tw nw,FnAt B 197 sBd "bidirectional_dijkstra" (.ref T) .none∧B T=some oT∧oT.data = .seq #[.str "weight" tw] nw
 bdCode:∃o fd,B 197=some o∧o.data = .func fd∧fd.code = .ref 196
 code:∃o fd,B 971=some o∧o.data = .func fd∧fd.code = .ref 970
 nest:NestB B 970 968
noncomputable def numOf (n:Nat) (sc:Nat→Int) (k:Nat):Int:=if k<n then sc k else 0
noncomputable def IntsF (n:Nat) (f:Nat→Int) (xs:List Value):Prop:=xs.length=n∧∀i v,xs[i]?=some v→∃t,v=Value.int (f i) t
theorem IntsF.at {n:Nat} {f:Nat→Int} {xs:List Value} (H:IntsF n f xs) {i:Nat} (hi:i<n):∃t,xs[i]?=some (.int (f i) t):=by
 have hl:i<xs.length:=by rw [H.1];exact hi
 obtain⟨t,e⟩:=H.2 i xs[i] (List.getElem?_eq_getElem hl)
 exact⟨t,by rw [List.getElem?_eq_getElem hl,e]⟩
theorem cell_at {prog:Program} {w:World} {A:Around} {B:PM} {ms:List (Addr×OP)} {h:Heap} {env:Env} {x:Str} {p:Pos} {c:Addr} {v:Value} {j:Nat} (hk:env.scope.kind = .function) (hl:env.kindOf x=some .cell) (hc:env.cells.lookup x=some c) (S:St B ms h) (hj:ms[j]?=some (c,CellW (some (.val v)))) (hd:(x == ("__debug__" :Str))=false:=by decide):Ev prog w A env h (.Name x p) (.val v):=by
 obtain⟨oc,hoc,v',hd',hv⟩:=S.mem hj
 have hv':v'=some v:=hv
 subst hv'
 exact .cell hk hl hc ⟨_,hoc,hd'⟩ hd
inductive CellB (B:PM) (c:Addr) (v:Value):Prop
 | mk (o) (f1:B c=some o) (f2:o.data = .cell (some v)):CellB B c v
theorem CellB.le {B B':PM} {c v} (k:CellB B c v) (h:B.le B'):CellB B' c v:=let ⟨o,e,d⟩:=k;⟨o,h _ _ e,d⟩
theorem cellB_at {prog:Program} {w:World} {A:Around} {B:PM} {ms:List (Addr×OP)} {h:Heap} {env:Env} {x:Str} {p:Pos} {c:Addr} {v:Value} (hk:env.scope.kind = .function) (hl:env.kindOf x=some .cell) (hc:env.cells.lookup x=some c) (S:St B ms h) (hb:CellB B c v) (hd:(x == ("__debug__" :Str))=false:=by decide):Ev prog w A env h (.Name x p) (.val v):=by
 obtain⟨o,e,d⟩:=hb
 exact .cell hk hl hc ⟨_,S.keep _ _ e,d⟩ hd
section
variable {prog:Program} {w:World} {A:Around} {h:Heap} {X:Value→Heap→Prop} {P:Flow→Heap→Prop} {B:PM} {ms:List (Addr×OP)} {L:Addr} {avs:List AV} {rest:List Stmt}
theorem St.freezeCell {c:Addr} {v:Value} (S:St B ((c,CellW (some (.val v)))::ms) h):∃B',B.le B'∧CellB B' c v∧St B' ms h:=by
 obtain⟨oc,hoc,v',hd',hv⟩:=S.mem (i:=0) rfl
 have hv':v'=some v:=hv
 subst hv'
 exact⟨_,PM.le_put (S.off _ (.head _)),⟨oc,PM.put_self,hd'⟩,S.freeze0 hoc⟩
theorem law0 {sl:Addr} {oS:Obj} {vs:Array Value} {sc:Nat→Int} {tail:List (Addr×OP)} (hh:A.handled=none) (gLen:GName B "len" (.builtin "len")) (gR:GName B "range" (.type "range")) (hS:B sl=some oS) (eS:ListO vs oS) (hv:∀i v,vs[i]?=some v→∃t,v=Value.int (sc i) t) (hz:vs.size≤63)
  (S:St B ((L,FrameO nmLaw avs)::(L+1+0,CellW (some (.val (.ref sl))))::tail) h)
  (k:∀B' D oD ys h',B.le B'→B' D=some oD→ListO ys.toArray oD→IntsF 8 (numOf vs.size sc) ys→St B' ((L,FrameO nmLaw (avs.set 0 (.val (.ref D))))::tail) h'→Tr prog w A (execs rest (eL L)) h' P X):
  Tr prog w A (execs (lw 0::rest) (eL L)) h P X:=by
 refine Cd.assignComp (nms:=nmLaw) (avs:=avs) (tail:=(L+1+0,CellW (some (.val (.ref sl))))::tail) [("script",L+1+0)] 8 (fun i B' fr ys=>B'=B∧fr = []∧IntsF i (numOf vs.size sc) ys) hh (by decide) okLaw 0 rfl (by with_unfolding_all rfl) (by with_unfolding_all rfl) ?_ ?_ ?_
 ·exact .rangeOf okLaw S gR (by rfl) .cInt fun a h1 t u v S1 hr _ _=>⟨B,[],a,t,u,v,rfl,hr,S1,rfl,rfl,rfl,fun i v e=>by simp at e⟩
 ·rintro i B' fr ys C I D q h1 hi hy ⟨rfl,rfl,hI⟩ S1 O1
  have S1:St B' ((C,FrameO ["k"] [.int i])::(I,q)::(D,lstO ys)::(L,FrameO nmLaw avs)::(L+1+0,CellW (some (.val (.ref sl))))::tail) h1:=S1
  have hl:h1.IsList sl vs:=let ⟨c,n,d⟩:=eS;⟨oS,S1.keep _ _ hS,c,n,d⟩
  refine .ofEv (av:= .int (numOf vs.size sc i)) (.if_ (b:=decide ((i:Int)<(vs.size:Nat))) (.cmp (.name O1 S1 0 rfl rfl) (.lenL O1 S1 gLen (by rfl) (cell_at rfl (by rfl) rfl S1 (j:=4) rfl) hl (nt96 hz)) .lt) (fun hb=>?_) fun hb=>?_) fun v hv'=>⟨B',[],S1,rfl,rfl,?_⟩
  ·have hlt:i<vs.size:=by have:=of_decide_eq_true hb;exact nt243 hy this
   have hval:vs[i]?=some vs[i]:=Array.getElem?_eq_getElem hlt
   obtain⟨t,e⟩:=hv i _ hval
   refine .subL (cell_at rfl (by rfl) rfl S1 (j:=4) rfl) (.name O1 S1 0 rfl rfl) hl hval ?_ (by omega)
   rw [e]
   exact⟨t,by rw [numOf,if_pos hlt]⟩
  ·have hge:¬i<vs.size:=fun q=>by have:=of_decide_eq_false hb;exact nt248 hy q this
   have e:numOf vs.size sc i=0:=by rw [numOf,if_neg hge]
   rw [e]
   exact .cInt
  ·refine⟨by rw [List.length_append,hI.1];rfl,fun j x e=>?_⟩
   by_cases hj:j<i
   ·rw [List.getElem?_append_left (by rw [hI.1];exact hj)] at e
    exact hI.2 j x e
   ·rw [List.getElem?_append_right (by rw [hI.1];exact nt258 hy hj),hI.1] at e
    have:j - i=0:=by
     cases q:j - i with
     | zero=>rfl
     | succ n=>rw [q] at e;simp at e
    rw [this] at e
    have e':v=x:=by simpa using e
    have ej:j=i:=nt259 hy hj this
    subst e' ej
    exact hv'
 ·rintro D B' fr ys h1 hy ⟨rfl,rfl,hI⟩ S1
  have S1:St B' ((L,FrameO nmLaw (avs.set 0 (.val (.ref D))))::(D,lstO ys)::(L+1+0,CellW (some (.val (.ref sl))))::tail) h1:=S1
  have S2:St B' ((D,lstO ys)::(L,FrameO nmLaw (avs.set 0 (.val (.ref D))))::tail) h1:=(S1.dropTo ((L,FrameO nmLaw (avs.set 0 (.val (.ref D))))::(D,lstO ys)::tail) (.cons_cons _ (.cons_cons _ (List.sublist_cons_self ..)))).perm (List.Perm.swap ..)
  obtain⟨oD,hoD,eD⟩:=S2.mem (i:=0) rfl
  have eD':oD=LCg.lst ys:=eD
  subst eD'
  exact k _ D _ ys h1 (PM.le_put (S2.off _ (.head _))) PM.put_self ⟨rfl,_,rfl⟩ hI (S2.freeze0 hoD)
end
end
section
set_option tactic.hygienic false
open PySem PySem.W PyProof.Rows
variable [GenI]
noncomputable def manyOf (f:Nat→Int):Nat:=2+((f 0).fmod 5).toNat
noncomputable def bothOf (f:Nat→Int):Bool:=(((f 0).fdiv 5).fmod 2 == 1)
noncomputable def startOf (f:Nat→Int):Nat:=((f 7).fmod (manyOf f:Nat)).toNat
noncomputable def digitsOf (f:Nat→Int):Int:=(f 7).fdiv (manyOf f:Nat)
theorem many_eq (f:Nat→Int):2+(f 0).fmod 5=(manyOf f:Nat):=by
 have:=Int.fmod_nonneg_of_pos (f 0) (b:=5) (by decide)
 unfold manyOf;exact nt17 this
theorem many_lo (f:Nat→Int):2≤manyOf f:=by unfold manyOf;exact nt19
theorem many_hi (f:Nat→Int):manyOf f≤6:=by
 have:=Int.fmod_lt_of_pos (f 0) (b:=5) (by decide)
 unfold manyOf;exact nt20 this
theorem start_eq (f:Nat→Int):(f 7).fmod (manyOf f:Nat)=(startOf f:Nat):=by
 have h2:=many_lo f
 have:=Int.fmod_nonneg_of_pos (f 7) (b:=(manyOf f:Nat)) (nt46 h2)
 unfold startOf;exact nt18 this
theorem start_lt (f:Nat→Int):startOf f<manyOf f:=by
 have h2:=many_lo f
 have:=Int.fmod_lt_of_pos (f 7) (b:=(manyOf f:Nat)) (nt46 h2)
 have h3:=start_eq f
 exact nt12 this h3
section
variable {prog:Program} {w:World} {A:Around} {h:Heap} {X:Value→Heap→Prop} {P:Flow→Heap→Prop} {B:PM} {ms:List (Addr×OP)} {L:Addr} {avs:List AV} {rest:List Stmt}
theorem nums_at {env:Env} {D:Addr} {oD:Obj} {ys:List Value} {f:Nat→Int} {e i:PySem.Expr} {p:Pos} {k:Nat} (S:St B ms h) (hD:B D=some oD) (eD:ListO ys.toArray oD) (hI:IntsF 8 f ys) (he:Ev prog w A env h e (.val (.ref D))) (hi:Ev prog w A env h i (.int (k:Nat))) (hk:k<8)
  (hsl:∀va vb,subscripted i false va vb=operate [va,vb] (getItem va vb):=by intro _ _;with_unfolding_all rfl):Ev prog w A env h (.Subscript e i p) (.int (f k)):=by
 obtain⟨c,n,d⟩:=eD
 obtain⟨t,e1⟩:=hI.at hk
 exact .subL he hi ⟨oD,S.keep _ _ hD,c,n,d⟩ (by rw [List.getElem?_toArray];exact e1) ⟨t,rfl⟩ (by omega) hsl
theorem law1 {D:Addr} {oD:Obj} {ys:List Value} {f:Nat→Int} {tail:List (Addr×OP)} (hh:A.handled=none) (hD:B D=some oD) (eD:ListO ys.toArray oD) (hI:IntsF 8 f ys) (ha:avs[0]?=some (.val (.ref D)))
  (S:St B ((L,FrameO nmLaw avs)::(L+1+1,CellW none)::tail) h)
  (k:∀B' t h',B.le B'→CellB B' (L+1+1) (.int (manyOf f:Nat) t)→St B' ((L,FrameO nmLaw (avs.set 1 (.val (.bool (bothOf f)))))::tail) h'→Tr prog w A (execs rest (eL L)) h' P X):
  Tr prog w A (execs (lw 1::rest) (eL L)) h P X:=by
 refine Cd.tupN hh (.evE (.add .cInt (.mod (nums_at (k:=0) S hD eD hI (.name okLaw S 0 rfl ha) .cInt (by decide)) .cInt (by decide))) fun v1 hv1=>.evE (.cmp (.mod (.fdiv (nums_at (k:=0) S hD eD hI (.name okLaw S 0 rfl ha) .cInt (by decide)) .cInt (by decide) (by decide)) .cInt (by decide)) .cInt .eq) fun v2 hv2=>.evNil ⟨rfl,by exact Nat.le_of_ble_eq_true rfl,B,_,S,fun h2 S2=>?_⟩)
 obtain⟨t,rfl⟩:=hv1
 have hv2':v2 = .bool (bothOf f):=hv2
 subst hv2'
 rw [many_eq]
 refine .asgCons (.asgCell rfl (by rfl) rfl S2 (j:=1) rfl fun h3 S3=>.asgCons (.asgName okLaw S3 1 rfl (av:= .val (.bool (bothOf f))) rfl fun h4 S4=>.asgNil ?_))
 have S5:St B ((L+1+1,CellW (some (.val (.int (manyOf f:Nat) t))))::(L,FrameO nmLaw (avs.set 1 (.val (.bool (bothOf f)))))::tail) h4:=S4.perm (List.Perm.swap ..)
 obtain⟨B',hle,hc,S6⟩:=St.freezeCell S5
 exact k B' t h4 hle hc S6
theorem law2 {D:Addr} {oD:Obj} {ys:List Value} {f:Nat→Int} {t:Tok} {tail:List (Addr×OP)} (hh:A.handled=none) (hD:B D=some oD) (eD:ListO ys.toArray oD) (hI:IntsF 8 f ys) (ha:avs[0]?=some (.val (.ref D))) (hc:CellB B (L+1+1) (.int (manyOf f:Nat) t))
  (S:St B ((L,FrameO nmLaw avs)::(L+1+2,CellW none)::tail) h)
  (k:∀B' t h',B.le B'→CellB B' (L+1+2) (.int (digitsOf f) t)→St B' ((L,FrameO nmLaw ((avs.set 2 (.int (startOf f:Nat))).set 3 (.int (manyOf f - 1:Nat))))::tail) h'→Tr prog w A (execs rest (eL L)) h' P X):
  Tr prog w A (execs (lw 2::rest) (eL L)) h P X:=by
 have h2:=many_lo f
 have h6:=many_hi f
 have em:∀{p},Ev prog w A (eL L) h (.Name "many" p) (.int (manyOf f:Nat)):=fun {p}=>.intOf (cellB_at rfl (by rfl) rfl S hc)
 refine Cd.tupN hh (.evE (.mod (nums_at (k:=7) S hD eD hI (.name okLaw S 0 rfl ha) .cInt (by decide)) em (nt48 h2 h6)) fun v1 hv1=>.evE (.sub em .cInt) fun v2 hv2=>.evE (.fdiv (nums_at (k:=7) S hD eD hI (.name okLaw S 0 rfl ha) .cInt (by decide)) em (nt48 h2 h6) (by omega)) fun v3 hv3=>.evNil ⟨rfl,by exact Nat.le_of_ble_eq_true rfl,B,_,S,fun h2 S2=>?_⟩)
 obtain⟨t3,rfl⟩:=hv3
 have hv1':AV.ok (.int (startOf f:Nat)) v1:=by rw [←start_eq];exact hv1
 have hv2':AV.ok (.int (manyOf f - 1:Nat)) v2:=by
  have e:((manyOf f - 1:Nat):Int)=(manyOf f:Nat) - 1:=nt47 ‹_› h6
  rw [e];exact hv2
 refine .asgCons (.asgName okLaw S2 2 rfl hv1' fun h3 S3=>.asgCons (.asgName okLaw S3 3 rfl hv2' fun h4 S4=>.asgCons (.asgCell rfl (by rfl) rfl S4 (j:=1) rfl fun h5 S5=>.asgNil ?_)))
 have S6:St B ((L+1+2,CellW (some (.val (.int (digitsOf f) t3))))::(L,FrameO nmLaw ((avs.set 2 (.int (startOf f:Nat))).set 3 (.int (manyOf f - 1:Nat))))::tail) h5:=S5.perm (List.Perm.swap ..)
 obtain⟨B',hle,hc',S7⟩:=St.freezeCell S6
 exact k B' t3 h5 hle hc' S7
end
end
section
set_option tactic.hygienic false
open PySem PySem.W PyProof.Rows
variable [GenI]
section
variable {prog:Program} {w:World} {A:Around} {h:Heap} {X:Value→Heap→Prop} {P:Flow→Heap→Prop} {B:PM} {ms:List (Addr×OP)} {L:Addr} {avs:List AV} {rest:List Stmt} {K:Frag}
theorem gFr_zero {dir:Bool} {n dn gd nd ad pd:Nat} {T:List (Addr×OP)}:gFr prog w dir n dn (instL dir gd nd ad pd) nd ad pd 0 (fun _=>0) noKv (fun _=>0) noKv++T =
  (dn,InsD (instL dir gd nd ad pd))::(nd,MapO prog w n noneM)::(ad,MapO prog w n noneM)::((if dir then [(pd,MapO prog w n noneM)] else [])++T):=by
 have e1:nodesA 0=noneM:=by funext k;simp [nodesA,noneM]
 have e2:rowsA (fun _=>0) 0=noneM:=by funext k;simp [rowsA,noneM]
 cases dir <;> simp [gFr,e1,e2,rowL,dnL]
theorem law3 {bo:Bool} {n:Nat} {tail:List (Addr×OP)} (R:Room A 6 30) (F:LawF prog w K B) (ha:avs[1]?=some (.val (.bool bo))) (S:St B ((L,FrameO nmLaw avs)::tail) h)
  (k:∀net dn gd nd ad pd B' h',B.le B'→(∃ox,B' net=some ox∧PlainO (clsOf !bo) dn (fun _=>True) ox)→
   St B' (gFr prog w (!bo) n dn (instL (!bo) gd nd ad pd) nd ad pd 0 (fun _=>0) noKv (fun _=>0) noKv++(L,FrameO nmLaw (avs.set 4 (.val (.ref net))))::tail) h'→Tr prog w A (execs rest (eL L)) h' P X):
  Tr prog w A (execs (lw 3::rest) (eL L)) h P X:=by
 have fin:∀{net dn gd nd ad pd B' h'},B.le B'→(∃ox,B' net=some ox∧PlainO (clsOf !bo) dn (fun _=>True) ox)→
   St B' ((dn,InsD (instL (!bo) gd nd ad pd))::(nd,MapO prog w n noneM)::(ad,MapO prog w n noneM)::((if(!bo)=true then [(pd,MapO prog w n noneM)] else [])++(L,FrameO nmLaw avs)::tail)) h'→
   AsgP prog w A (eL L) X P L nmLaw rest 4 (.ref net) h':=by
  intro net dn gd nd ad pd B' h' hle hox S'
  rw [←gFr_zero] at S'
  refine⟨B',_,avs,.val (.ref net),S'.perm List.perm_middle.symm,rfl,fun h2 S2=>k net dn gd nd ad pd B' h2 hle hox (S2.perm List.perm_middle)⟩
 refine Cd.assign okLaw 4 rfl ?_
 refine .if_ (.val (.name okLaw S 1 rfl ha)) (fun e=>?_) fun e=>?_
 ·subst e
  refine .callName (.g okLaw S F.gGraph) (.evNil ⟨.inK (F.bu.inK.in S) (F.bu.gr.cls false).keep,(gmake_ok (dir:=false) (n:=n) R F.bu S).post fun v h1 zq0=>?_⟩)
  obtain⟨net,dn,gd,nd,ad,pd,B',ev,hle,hox,S1⟩:=zq0
  subst ev
  exact fin hle hox S1
 ·subst e
  refine .callName (.g okLaw S F.gDi) (.evNil ⟨.inK (F.bu.inK.in S) (F.bu.gr.cls true).keep,(gmake_ok (dir:=true) (n:=n) R F.bu S).post fun v h1 zq0=>?_⟩)
  obtain⟨net,dn,gd,nd,ad,pd,B',ev,hle,hox,S1⟩:=zq0
  subst ev
  exact fin hle hox S1
theorem law4 {dir:Bool} {net dn gd nd ad pd n:Nat} {t:Tok} {ox:Obj} {tail:List (Addr×OP)} (R:Room A 4 20) (F:LawF prog w K B) (hn:n≤6) (ha:avs[4]?=some (.val (.ref net))) (hm:CellB B (L+1+1) (.int (n:Nat) t)) (hox:B net=some ox) (hpl:PlainO (clsOf dir) dn (fun _=>True) ox)
  (S:St B (gFr prog w dir n dn (instL dir gd nd ad pd) nd ad pd 0 (fun _=>0) noKv (fun _=>0) noKv++(L,FrameO nmLaw avs)::tail) h)
  (k:∀B' h' r q,B.le B'→St B' (gFr prog w dir n dn (instL dir gd nd ad pd) nd ad pd n r noKv q noKv++(L,FrameO nmLaw avs)::tail) h'→Tr prog w A (execs rest (eL L)) h' P X):
  Tr prog w A (execs (lw 4::rest) (eL L)) h P X:=by
 have SL:=S.perm List.perm_middle.symm
 obtain⟨odn,hodn,il⟩:=S.own (dn,InsD (instL dir gd nd ad pd)) (.head _)
 have I:InstAt h net ox (clsOf dir) (some odn):=instAt (S.keep _ _ hox) hpl.1 hpl.2.1 hpl.2.2.1 hodn
 refine Cd.expr (.callMeth (.name okLaw SL 4 rfl ha) (.own (F.bu.inK.in S) (F.bu.gr.cls dir) (F.mN dir) I il (by cases dir <;> rfl)) (.evCons (.rangeOf okLaw SL F.gRange (by rfl) (.intOf (cellB_at rfl (by rfl) rfl SL hm)) fun a h1 t1 u1 v1 S1 hr hn1 hk1=>.evNil ?_)))
 have hb:B.le (B.put a { cls:= .type "range",dict:=none,data:= .fields #[.int 0 t1,.int (n:Nat) u1,.int 1 v1],slots:= #[]}):=PM.le_put (SL.notB_of_none hn1)
 have S2:=S1.addB (a:=a) (SL.notMs_of_none hn1) hr
 have S2':=S2.perm List.perm_middle
 refine⟨.ofFn S1 (F.fN dir),(addn_ok (A:=A) R (F.bu.le hb) ((F.fN dir).le hb) hn (hb _ _ hox) hpl PM.put_self rfl S2').tr.noE.post fun v h2 zq0=>?_⟩
 obtain⟨ev,r,q,S3⟩:=zq0
 exact k _ h2 r q hb S3
end
end
section
set_option tactic.hygienic false
open PySem PySem.W PyProof.Rows
variable [GenI]
noncomputable def rowsO (ra:Nat→Addr) (xs:Nat→Array Value) (n:Nat):List (Addr×OP):=dnL (fun k=>(ra k,ListO (xs k))) n
theorem rowsO_congr {ra ra':Nat→Addr} {xs xs':Nat→Array Value} {n:Nat} (h:∀k<n,ra k=ra' k∧xs k=xs' k):rowsO ra xs n=rowsO ra' xs' n:=
 dnL_congr fun k hk=>by rw [(h k hk).1,(h k hk).2]
section
variable {prog:Program} {w:World} {A:Around} {h:Heap} {X:Value→Heap→Prop} {P:Flow→Heap→Prop} {B:PM} {ms:List (Addr×OP)} {L:Addr} {avs:List AV} {rest:List Stmt} {K:Frag}
theorem law5 {n j:Nat} {t:Tok} {tail:List (Addr×OP)} (hh:A.handled=none) (gR:GName B "range" (.type "range")) (hn:n≤6) (hm:CellB B (L+1+1) (.int (n:Nat) t)) (S:St B ((L,FrameO nmLaw avs)::(L+1+3,CellW none)::tail) h)
  (k:∀B' D oD ys ra h',B.le B'→CellB B' (L+1+3) (.ref D)→B' D=some oD→ListO ys oD→(∀j<n,ys[j]?=some (.ref (ra j)))→St B' (rowsO ra (fun _=>(List.replicate n Value.none).toArray) n++(L,FrameO nmLaw avs)::tail) h'→Tr prog w A (execs rest (eL L)) h' P X):
  Tr prog w A (execs (lw 5::rest) (eL L)) h P X:=by
 refine Cd.assignCell (x:= "table") (c:=L+1+3) rfl (by rfl) rfl ?_
 refine .listComp (nms:=nmLaw) (tail:=(L,FrameO nmLaw avs)::(L+1+3,CellW none)::tail) [("many",L+1+1)] n (fun i B' fr ys=>B'=B∧∃ra,fr=rowsO ra (fun _=>(List.replicate n Value.none).toArray) i∧ys.length=i∧∀j<i,ys[j]?=some (.ref (ra j))) hh (nt95 hn) okLaw (by with_unfolding_all rfl) ?_ ?_ ?_
 ·exact .rangeOf okLaw S gR (by rfl) (.intOf (cellB_at rfl (by rfl) rfl S hm)) fun a h1 t u v S1 hr _ _=>⟨B,[],a,t,u,v,rfl,hr,S1,rfl,fun _=>0,rfl,rfl,fun j hj=>absurd hj (Nat.not_lt_zero j)⟩
 ·rintro i B' fr ys C I D q h1 hi hy ⟨rfl,ra,rfl,_,hys⟩ S1 O1
  refine .binop (.listD (.evE .cNone fun v hv=>.evNil ⟨few (by exact Nat.le_of_ble_eq_true rfl),?_⟩))
  have hv':v = .none:=hv
  subst hv'
  have S2:=S1.pushX { cls:= .type "list",data:= .seq ([Value.none]:List Value).toArray}
  have hl:(h1.push { cls:= .type "list",data:= .seq ([Value.none]:List Value).toArray}).get? h1.objs.size=some { cls:= .type "list",data:= .seq #[Value.none]}:=Heap.get?_push_size _ rfl
  refine .ofEv (.intOf (cellB_at rfl (by rfl) rfl S2 hm)) fun v hv=>?_
  obtain⟨t2,rfl⟩:=hv
  refine .mulList S2 hl (nt94 hn) fun a h3 S3=>⟨B',(a,ListO (List.replicate n Value.none).toArray)::rowsO ra (fun _=>(List.replicate n Value.none).toArray) i,?_,rfl,fun k=>if k=i then a else ra k,?_,?_,?_⟩
  ·refine(S3.weak0 fun o ho=>LiO.list ho).perm ?_
   exact List.Perm.swap ..
  ·show _=(if i=i then a else ra i,_)::rowsO _ _ i
   rw [if_pos rfl]
   congr 1
   exact rowsO_congr fun k hk=>⟨by rw [if_neg (nt254 hy hk)],rfl⟩
  ·rw [List.length_append,hy];rfl
  ·intro j hj
   show(ys++[Value.ref a])[j]?=some (.ref (if j=i then a else ra j))
   by_cases hji:j<i
   ·rw [List.getElem?_append_left (nt252 hy hji),if_neg (nt254 hy hji)]
    exact hys j hji
   ·obtain rfl:j=i:=nt251 hy hj hji
    rw [List.getElem?_append_right (nt157 hy),hy,Nat.sub_self,if_pos rfl];rfl
 ·rintro D B' fr ys h1 hy ⟨rfl,ra,rfl,_,hys⟩ S1
  refine⟨B',(D,lstO ys)::(L+1+3,CellW none)::(rowsO ra (fun _=>(List.replicate n Value.none).toArray) n++(L,FrameO nmLaw avs)::tail),1,none,S1.perm ?_,rfl,fun h2 S2=>?_⟩
  ·refine List.Perm.cons _ ?_
   exact(List.perm_middle (l₁:=rowsO ra (fun _=>(List.replicate n Value.none).toArray) n++[(L,FrameO nmLaw avs)]) (a:=(L+1+3,CellW none)) (l₂:=tail) |>.symm.trans (.of_eq (by simp)) |> fun hp=>by simpa using hp)
  ·have S2:St B' ((D,lstO ys)::(L+1+3,CellW (some (.val (.ref D))))::(rowsO ra (fun _=>(List.replicate n Value.none).toArray) n++(L,FrameO nmLaw avs)::tail)) h2:=S2
   obtain⟨oD,hoD,eD⟩:=S2.mem (i:=0) rfl
   have eD':oD=LCg.lst ys:=eD
   subst eD'
   have hle1:=PM.le_put (o:=LCg.lst ys) (S2.off _ (.head _))
   obtain⟨B2,hle2,hc2,S3⟩:=St.freezeCell (S2.freeze0 hoD)
   exact k B2 D _ ys.toArray ra h2 (PM.le_trans hle1 hle2) hc2 (hle2 _ _ PM.put_self) ⟨rfl,_,rfl⟩ (fun j hj=>by rw [List.getElem?_toArray];exact hys j hj) S3
end
end
section
set_option tactic.hygienic false
open PySem PySem.W PyProof.Rows
variable [GenI]
section
variable {prog:Program} {w:World} {A:Around} {env:Env} {h:Heap} {X:Value→Heap→Prop} {B:PM} {ms:List (Addr×OP)} {L:Addr} {nms:List Str} {avs:List AV} {pos:Pos} {K:Frag}
inductive SubL (prog:Program) (w:World) (A:Around) (env:Env) (P:Value→Heap→Prop) (i:PySem.Expr) (ov:Value) (h1:Heap):Prop
 | mk (a:Addr) (xs:Array Value) (k:Nat) (v:Value) (e:ov = .ref a) (hl:h1.IsList a xs) (hi:Ev prog w A env h1 i (.int ((k:Nat):Int))) (hv:xs[k]?=some v) (hk:k<2 ^ 62) (hp:P v h1)
theorem Tr.subList {o i:PySem.Expr} {P:Value→Heap→Prop} (h1:Tr prog w A (eval o env) h (SubL prog w A env P i) X)
  (hsl:∀va vb,subscripted i false va vb=operate [va,vb] (getItem va vb):=by intro _ _;with_unfolding_all rfl):Tr prog w A (eval (.Subscript o i pos) env) h P X:=by
 intro g d tk os Q E hg hq he
 rw [eval_Subscript]
 refine wpAny_bind (h1 g d tk os _ E hg (fun va h1 g1 tk₁ hg1 z=>?_) he)
 obtain⟨a,xs,k,v,rfl,hl,hi,hv,hk,hp⟩:=z
 refine wpAny_bind (wpAny_holding (hi g1 d tk₁ os _ E fun vb tk₂ hvb=>?_))
 obtain⟨t,rfl⟩:=hvb
 have hT:Shared.TypeIs ⟨h1,g1,d,tk₂,os⟩ (.ref a) "list" :=Heap.IsList.typeIs (s:=⟨h1,g1,d,tk₂,os⟩) hl
 refine wpAny_bind (wpAny_standAt ?_)
 refine wpAny_bind ?_
 rw [getitemInPython_of_ne hT.not_modules]
 refine wpAny_bind (wpAny_specialOf hT tl_list ?_)
 refine wpAny_pure ?_
 rw [hsl]
 refine wpAny_bind (wpAny_operating (wpAny_getItem_list hl (nt136 hk) (by lia) (by rw [Int.toNat_natCast];exact hv) ?_))
 exact wpAny_bind (wpAny_letTemporaryGo (wpAny_pure (hq v h1 g1 tk₂ hg1 hp)))
theorem Tr.dictStr {x:Str} {kk:Nat} {kp:Pos} {ve:PySem.Expr} {av:AV} {P:Value→Heap→Prop} (S:St B ms h) (h2:∀h1,St B ms h1→Ev prog w A env h1 ve av)
  (k:∀a v h',av.ok v→St B ((a,DictT prog w [(x,v)])::ms) h'→P (.ref a) h'):Tr prog w A (eval (.Dict [some (.Constant (.str x) kk kp)] [ve] pos) env) h P X:=by
 intro g d tk os Q E hg hq he
 refine wpAny_Dict_pairs (knd:=strKind prog w) (pairs:=[(eval (.Constant (.str x) kk kp) env,do let x ←eval ve env;standAt pos;Pure.pure x)]) rfl (by exact List.cons_ne_nil _ _) (by exact Nat.le_of_ble_eq_true rfl) ?_
 have S1:=S.pushX { cls:= .type "dict",data:= .dict #[]}
 show wpAny _ _ (do
  let kv ←eval (.Constant (.str x) kk kp) env
  let vv ←holding [kv] (do let x ←eval ve env;standAt pos;Pure.pure x)
  return (kv,vv)::(←holding [kv,vv] (evalPairs []))) _ _ _
 refine wpAny_bind (Calls.Constant_str ?_)
 refine wpAny_bind (wpAny_holding (wpAny_bind (h2 _ S1 g d _ os _ E fun vv tk2 hvv=>wpAny_bind (wpAny_standAt (wpAny_pure ?_)))))
 refine wpAny_bind (wpAny_holding (wpAny_pure (wpAny_pure ?_)))
 refine⟨[(x,vv)],⟨strKind_is _ _ _ _,rfl,trivial⟩,Heap.DictOf.new h,fun h' hd hs=>hq _ _ _ _ hg (k _ vv _ hvv ?_)⟩
 obtain⟨o,ho,hd'⟩:=dictT_iff.mp hd
 have S2:St B ((h.objs.size,fun _=>True)::ms) (h.push { cls:= .type "dict",data:= .dict #[]}):=S.pushM trivial
 have e:merged [] [(x,vv)] = [(x,vv)]:=rfl
 rw [e] at hd'
 exact S2.upd (i:=0) rfl hs ho hd'
end
end
section
open PySem PySem.W PyProof.Rows
variable [GenI]
noncomputable def before (v w a b:Nat):Prop:=a<v∨(a=v∧b<w)
structure EInv (dir:Bool) (n v w:Nat) (E:EdR):Prop where
 w5:∀x y c,E x y=some (some c)→c≤5
 irr:∀x,E x x=none
 rng:∀x y o,E x y=some o→x<n∧y<n
 sym:dir=false→∀u v,E u v=E v u
 dn:∀a b o,E a b=some o→before v w a b∨(dir=false∧before v w b a)
theorem EInv.zero {dir n}:EInv dir n 0 0 fun _ _=>none:=⟨by nofun,fun _=>rfl,by nofun,fun _ _ _=>rfl,by nofun⟩
theorem EInv.skip {dir n v w E} (H:EInv dir n v w E):EInv dir n v (w+1) E:=⟨H.w5,H.irr,H.rng,H.sym,fun a b o e=>(H.dn a b o e).imp (fun q=>by unfold before at *;exact nt303 q) fun q=>⟨q.1,by have:=q.2;unfold before at *;exact nt303 this⟩⟩
theorem EInv.row {dir n v E} (H:EInv dir n v n E):EInv dir n (v+1) 0 E:=⟨H.w5,H.irr,H.rng,H.sym,fun a b o e=>(H.dn a b o e).imp (fun q=>by unfold before at *;exact nt302 q) fun q=>⟨q.1,by have:=q.2;unfold before at *;exact nt302 this⟩⟩
theorem EInv.fresh {dir n v w E} (H:EInv dir n v w E) (hd:dir=false→v<w):E v w=none∧(dir=false→v≠w∧E w v=none):=by
 have h1:E v w=none:=by
  cases e:E v w with
  | none=>rfl
  | some o=>
   rcases H.dn v w o e with q | ⟨q1,q2⟩
   ·unfold before at q;exact(nt129 q).elim
   ·have:=hd q1;unfold before at q2;exact(nt153 q2 this).elim
 exact⟨h1,fun d=>⟨Nat.ne_of_lt (hd d),(H.sym d w v).trans h1⟩⟩
theorem addE_at {dir E u v oc}:addE dir E u v oc u v=some oc:=by unfold addE;rw [if_pos rfl];unfold updF;rw [if_pos rfl]
theorem addE_dir {E u v oc} (x y:Nat):addE true E u v oc x y=if x=u∧y=v then some oc else E x y:=by
 unfold addE updF
 by_cases h1:x=u
 ·subst h1
  by_cases h2:y=v <;> simp [h2]
 ·simp [h1]
theorem addE_und {E u v oc} (huv:u≠v) (x y:Nat):addE false E u v oc x y=if(x=u∧y=v)∨(x=v∧y=u)then some oc else E x y:=by
 unfold addE updF
 by_cases h1:x=u
 ·subst h1
  by_cases h2:y=v
  ·simp [h2]
  ·have:¬(x=v∧y=x):=fun q=>huv q.1
   simp [h2,huv]
 ·by_cases h3:x=v
  ·subst h3
   by_cases h2:y=u <;> simp [h1,h2]
  ·simp [h1,h3]
theorem EInv.add {dir n v w E oc} (H:EInv dir n v w E) (hv:v<n) (hw:w<n) (hne:v≠w) (hd:dir=false→v<w) (hc:∀c,oc=some c→c≤5):EInv dir n v (w+1) (addE dir E v w oc):=by
 have key:∀x y o,addE dir E v w oc x y=some o→(o=oc∧((x=v∧y=w)∨(dir=false∧x=w∧y=v)))∨E x y=some o:=by
  intro x y o e
  cases dir with
  | true=>
   rw [addE_dir] at e
   split at e
   ·rename_i q;obtain rfl:=Option.some.inj e;exact .inl ⟨rfl,.inl q⟩
   ·exact .inr e
  | false=>
   rw [addE_und hne] at e
   split at e
   ·rename_i q
    obtain rfl:=Option.some.inj e
    exact .inl ⟨rfl,q.imp id fun q=>⟨rfl,q⟩⟩
   ·exact .inr e
 refine⟨fun x y c e=>?_,fun x=>?_,fun x y o e=>?_,fun d x y=>?_,fun a b o e=>?_⟩
 ·rcases key _ _ _ e with⟨q,_⟩ | q
  ·exact hc c q.symm
  ·exact H.w5 x y c q
 ·cases e:addE dir E v w oc x x with
  | none=>rfl
  | some o=>
   rcases key _ _ _ e with⟨_,q | q⟩ | q
   ·exact(nt261 hne q).elim
   ·omega
   ·rw [H.irr x] at q;contradiction
 ·rcases key _ _ _ e with⟨_,q | q⟩ | q
  ·exact nt333 hv hw q
  ·omega
  ·exact H.rng x y o q
 ·subst d
  rw [addE_und hne,addE_und hne,H.sym rfl x y]
  by_cases q:(x=v∧y=w)∨(x=w∧y=v)
  ·rw [if_pos q,if_pos (nt312 q)]
  ·rw [if_neg q,if_neg (nt328 q)]
 ·rcases key _ _ _ e with⟨_,q | q⟩ | q
  ·left;unfold before;exact nt311 q
  ·right;exact⟨q.1,by unfold before;lia⟩
  ·exact(H.dn a b o q).imp (fun q=>by unfold before at *;exact nt303 q) fun q=>⟨q.1,by have:=q.2;unfold before at *;exact nt303 this⟩
noncomputable def oV:Option Nat→AV
 | none=>.val .none
 | some c=>.int (c:Nat)
theorem oV_ne {o:Option Nat}:oV o≠ .any:=by cases o <;> nofun
theorem oV_isNone {o:Option Nat}:(oV o).isNone=o.isNone:=by cases o <;> rfl
noncomputable def TabIs (n:Nat) (E:EdR) (xs:Nat→Array Value):Prop:=∀v<n,(xs v).size=n∧∀w<n,∃x,(xs v)[w]?=some x∧(oV (E v w).join).ok x
noncomputable def setA (xs:Nat→Array Value) (v:Nat) (y:Array Value):Nat→Array Value:=fun k=>if k=v then y else xs k
theorem TabIs.zero {n}:TabIs n (fun _ _=>none) fun _=>(List.replicate n Value.none).toArray:=fun v _=>⟨by simp,fun w hw=>⟨.none,by simp [hw],rfl⟩⟩
theorem TabIs.put {n v w E E' xs x} (H:TabIs n E xs) (hv:v<n) (hw:w<n) (hx:(oV (E' v w).join).ok x) (he:∀a b,¬(a=v∧b=w)→E' a b=E a b):TabIs n E' (setA xs v ((xs v).setIfInBounds w x)):=by
 intro a ha
 obtain⟨h1,h2⟩:=H a ha
 unfold setA
 by_cases q:a=v
 ·subst q
  rw [if_pos rfl]
  refine⟨by simpa using h1,fun b hb=>?_⟩
  by_cases q2:b=w
  ·subst q2
   exact⟨x,by rw [Array.getElem?_setIfInBounds_self];simp [h1,hw],hx⟩
  ·obtain⟨y,e1,e2⟩:=h2 b hb
   exact⟨y,by rw [Array.getElem?_setIfInBounds_ne (nt195 q2)];exact e1,by rw [he a b (fun z=>q2 z.2)];exact e2⟩
 ·rw [if_neg q]
  refine⟨h1,fun b hb=>?_⟩
  obtain⟨y,e1,e2⟩:=h2 b hb
  exact⟨y,e1,by rw [he a b (fun z=>q z.1)];exact e2⟩
theorem rowsO_get {ra:Nat→Addr} {xs:Nat→Array Value} {n k:Nat} (h:k<n):(rowsO ra xs n)[n - 1 - k]?=some (ra k,ListO (xs k)):=dnL_get h
theorem rowsO_len {ra:Nat→Addr} {xs:Nat→Array Value} {n:Nat}:(rowsO ra xs n).length=n:=dnL_len
theorem rowsO_set {ra:Nat→Addr} {xs:Nat→Array Value} {y:Array Value} {n k:Nat} (h:k<n):(rowsO ra xs n).set (n - 1 - k) (ra k,ListO y)=rowsO ra (setA xs k y) n:=
 (dnL_set h).trans (dnL_congr fun j _=>by
  by_cases q:j=k
  ·rw [if_pos q,setA,if_pos q,q]
  ·rw [if_neg q,setA,if_neg q])
noncomputable def costAt (k:Nat):Option Nat:=[none,some 0,some 1,some 2,some 5].getD k none
theorem costAt_le {k c:Nat} (h:costAt k=some c):c≤5:=by
 have hk:k=0∨k=1∨k=2∨k=3∨k=4∨5≤k:=nt70
 rcases hk with rfl | rfl | rfl | rfl | rfl | hk
 ·contradiction
 ·obtain rfl:=Option.some.inj h;decide
 ·obtain rfl:=Option.some.inj h;decide
 ·obtain rfl:=Option.some.inj h;decide
 ·obtain rfl:=Option.some.inj h;decide
 ·have e:costAt k=none:=by
   unfold costAt
   rw [List.getD_eq_getElem?_getD,List.getElem?_eq_none (by simpa using hk)]
   rfl
  rw [e] at h;contradiction
end
section
set_option tactic.hygienic false
open PySem PySem.W PyProof.Rows
variable [GenI]
noncomputable abbrev avL (D net:Addr) (bo:Bool) (s g:Nat) (a5 a6 a7 a8 a9 a10 a11 a12 a13:AV):List AV:=[.val (.ref D),.val (.bool bo),.int (s:Nat),.int (g:Nat),.val (.ref net),a5,a6,a7,a8,a9,a10,a11,a12,a13]
noncomputable def in6:Stmt:=(fnBody (lw 6)).getD 0 (.Pass default)
noncomputable def inner6:List Stmt:=fnBody in6
structure TableB (B:PM) (L:Addr) (n:Nat) (ra:Nat→Addr):Prop where
 at_:∃TD oT ys,CellB B (L+1+3) (.ref TD)∧B TD=some oT∧ListO ys oT∧∀j<n,ys[j]?=some (.ref (ra j))
theorem TableB.le {B B':PM} {L n ra} (k:TableB B L n ra) (h:B.le B'):TableB B' L n ra:=let ⟨TD,oT,ys,a,b,c,d⟩:=k.at_;⟨TD,oT,ys,a.le h,h _ _ b,c,d⟩
structure NumsB (B:PM) (D:Addr) (f:Nat→Int):Prop where
 at_:∃oD ys,B D=some oD∧ListO ys.toArray oD∧IntsF 8 f ys
theorem NumsB.le {B B':PM} {D f} (k:NumsB B D f) (h:B.le B'):NumsB B' D f:=let ⟨oD,ys,a,b,c⟩:=k.at_;⟨oD,ys,h _ _ a,b,c⟩
section
variable {prog:Program} {w:World} {A:Around} {env:Env} {h:Heap} {X:Value→Heap→Prop} {P:Flow→Heap→Prop} {B:PM} {ms:List (Addr×OP)} {L:Addr} {avs:List AV} {rest:List Stmt} {K:Frag}
theorem tab_row {n k:Nat} {ra:Nat→Addr} {e:PySem.Expr} {p q:Pos} (hk:env.scope.kind = .function) (hl:env.kindOf "table" =some .cell) (hc:env.cells.lookup ("table" :Str)=some (L+1+3)) (S:St B ms h) (T:TableB B L n ra) (he:Ev prog w A env h e (.int (k:Nat))) (hkn:k<n) (hn:n≤6)
  (hsl:∀va vb,subscripted e false va vb=operate [va,vb] (getItem va vb):=by intro _ _;with_unfolding_all rfl):Ev prog w A env h (.Subscript (.Name "table" p) e q) (.val (.ref (ra k))):=by
 obtain⟨TD,oT,ys,hcell,hT,⟨c,m,d⟩,hys⟩:=T.at_
 exact .subL (cellB_at hk hl hc S hcell) he ⟨oT,S.keep _ _ hT,c,m,d⟩ (hys k hkn) rfl (by omega) hsl
theorem nums_at' {D:Addr} {f:Nat→Int} {e i:PySem.Expr} {p:Pos} {k:Nat} (S:St B ms h) (N:NumsB B D f) (he:Ev prog w A env h e (.val (.ref D))) (hi:Ev prog w A env h i (.int (k:Nat))) (hk:k<8)
  (hsl:∀va vb,subscripted i false va vb=operate [va,vb] (getItem va vb):=by intro _ _;with_unfolding_all rfl):Ev prog w A env h (.Subscript e i p) (.int (f k)):=by
 obtain⟨oD,ys,a,b,c⟩:=N.at_
 exact nums_at S a b c he hi hk hsl
theorem perm6 {α:Type} {a:α} {r g t:List α}:(a::(r++(g++t))).Perm (g++(a::(r++t))):=by
 have e:(r++(g++t)).Perm (g++(r++t)):=by
  rw [←List.append_assoc,←List.append_assoc]
  exact List.perm_append_comm.append_right t
 exact(List.Perm.cons a e).trans List.perm_middle.symm
theorem pow7:∀{y:Nat},y<6→(7:Int) ^ y≠0∧((7:Int) ^ y).natAbs<1073741824:=fun {y} hy=>(by decide:∀y<6,(7:Int) ^ y≠0∧((7:Int) ^ y).natAbs<1073741824) y hy
noncomputable def digOf (f:Nat→Int) (x y:Nat):Nat:=(((f (1+x)).fdiv (7 ^ y)).fmod 7).toNat
theorem dig_eq (f:Nat→Int) (x y:Nat):((f (1+x)).fdiv (7 ^ y)).fmod 7=(digOf f x y:Nat):=by
 have:=Int.fmod_nonneg_of_pos ((f (1+x)).fdiv (7 ^ y)) (b:=7) (by decide)
 unfold digOf;exact nt18 this
theorem dig_lt (f:Nat→Int) (x y:Nat):digOf f x y<7:=by
 have:=Int.fmod_lt_of_pos ((f (1+x)).fdiv (7 ^ y)) (b:=7) (by decide)
 have h:=dig_eq f x y
 exact nt11 this h
inductive L6T (prog:Program) (w:World) (B:PM) (dir bo:Bool) (L net dn gd nd ad pd n x y s gl D:Nat) (r q ra:Nat→Addr) (T0:List (Addr×OP)) (a9 a10 a11 a12 a13:AV) (fl:Flow) (h':Heap):Prop
 | mk (ef:fl = .next) (B':PM) (E':EdR) (kv' qv':Nat→List (Int×Value)) (xs':Nat→Array Value) (a7' a8':AV) (hle:B.le B') (G:GRows prog w B' dir n E' kv' qv') (Ei:EInv dir n x (y+1) E') (T:TabIs n E' xs')
   (S:St B' ((L,FrameO nmLaw (avL D net bo s gl (.int (x:Nat)) (.int (y:Nat)) a7' a8' a9 a10 a11 a12 a13))::(rowsO ra xs' n++(gFr prog w dir n dn (instL dir gd nd ad pd) nd ad pd n r kv' q qv'++T0))) h'):L6T prog w B dir bo L net dn gd nd ad pd n x y s gl D r q ra T0 a9 a10 a11 a12 a13 fl h'
theorem law6_turn {dir bo:Bool} {net dn gd nd ad pd n x y s gl D:Nat} {f:Nat→Int} {ox:Obj} {ra r q:Nat→Addr} {T0:List (Addr×OP)} {E:EdR} {kv qv:Nat→List (Int×Value)} {xs:Nat→Array Value} {a7 a8 a9 a10 a11 a12 a13:AV} (R:Room A 4 20) (F:LawF prog w K B) (hdir:dir=!bo) (hn:n≤6) (hx:x<n) (hy:y<n)
  (N:NumsB B D f) (TB:TableB B L n ra) (hox:B net=some ox) (hpl:PlainO (clsOf dir) dn (fun _=>True) ox) (G:GRows prog w B dir n E kv qv) (Ei:EInv dir n x y E) (T:TabIs n E xs)
  (S:St B ((L,FrameO nmLaw (avL D net bo s gl (.int (x:Nat)) (.int (y:Nat)) a7 a8 a9 a10 a11 a12 a13))::(rowsO ra xs n++(gFr prog w dir n dn (instL dir gd nd ad pd) nd ad pd n r kv q qv++T0))) h):
  Tr prog w A (execs inner6 (eL L)) h (L6T prog w B dir bo L net dn gd nd ad pd n x y s gl D r q ra T0 a9 a10 a11 a12 a13) noX:=by
 have e1:((1+x:Nat):Int)=1+(x:Int):=nt29
 obtain⟨p1,p2⟩:=pow7 (Nat.lt_of_lt_of_le hy hn)
 refine Cd.assignE okLaw S 7 rfl (.mod (.fdiv (nums_at' (k:=1+x) S N (.name okLaw S 0 rfl rfl) (e1▸ .add .cInt (.name okLaw S 5 rfl rfl)) (nt171 hn hx)) (.pow (k:=y) .cInt (.name okLaw S 6 rfl rfl) (.inl rfl) (nt173 hn hy)) p1 p2) .cInt (by decide)) fun h1 S1=>?_
 rw [dig_eq] at S1
 have S1:St B ((L,FrameO nmLaw (avL D net bo s gl (.int (x:Nat)) (.int (y:Nat)) (.int (digOf f x y:Nat)) a8 a9 a10 a11 a12 a13))::(rowsO ra xs n++(gFr prog w dir n dn (instL dir gd nd ad pd) nd ad pd n r kv q qv++T0))) h1:=S1
 refine Cd.ifB (.bool (.and (.cmp (.name okLaw S1 7 rfl rfl) .cInt .gt) fun _=>.and (.bool (.or (.cmp (.name okLaw S1 5 rfl rfl) (.name okLaw S1 6 rfl rfl) .lt) fun _=>.or (.bool (.and (.cmp (.name okLaw S1 5 rfl rfl) (.name okLaw S1 6 rfl rfl) .gt) fun _=>.and (.not (.val (.name okLaw S1 1 rfl rfl))) fun _=>.andNil)) fun _=>.orNil)) fun _=>.andNil)) (fun hb=>?_) fun _=>?_
 ·-- an edge
  have hd1:1<digOf f x y:=by
   have:decide (((digOf f x y:Nat):Int)>1)=true:=by
    revert hb;cases decide (((digOf f x y:Nat):Int)>1) <;> simp
   have:=of_decide_eq_true this
   exact nt30 this
  have hb2:(x<y)∨(y<x∧bo=false):=by
   revert hb
   cases bo <;> simp <;> omega
  have hd7:=dig_lt f x y
  have hdf:dir=false→x<y:=fun e=>by
   rcases hb2 with q | ⟨_,q⟩
   ·exact q
   ·rw [q] at hdir;rw [e] at hdir;contradiction
  have hne:x≠y:=by omega
  obtain⟨hE,hE2⟩:=Ei.fresh hdf
  refine Cd.assign okLaw 8 rfl ?_
  refine .subList (.listD (.evE .cNone fun v0 h0=>.evE .cInt fun v1 hv1=>.evE .cInt fun v2 hv2=>.evE .cInt fun v3 hv3=>.evE .cInt fun v4 hv4=>.evNil ⟨few (by exact Nat.le_of_ble_eq_true rfl),?_⟩))
  have S2:=S1.pushX { cls:= .type "list",data:= .seq ([v0,v1,v2,v3,v4]:List Value).toArray}
  have hk:digOf f x y - 2<5:=nt40 hd1 hd7
  have e2:((digOf f x y - 2:Nat):Int)=(digOf f x y:Nat) - 2:=nt38 hd1 hd7
  have hval:∃v,([v0,v1,v2,v3,v4]:List Value).toArray[digOf f x y - 2]?=some v∧(oV (costAt (digOf f x y - 2))).ok v:=by
   rw [List.getElem?_toArray]
   have hk':digOf f x y - 2=0∨digOf f x y - 2=1∨digOf f x y - 2=2∨digOf f x y - 2=3∨digOf f x y - 2=4:=nt39 hd1 hd7 e2
   rcases hk' with q | q | q | q | q <;> rw [q]
   ·exact⟨_,rfl,h0⟩
   ·exact⟨_,rfl,hv1⟩
   ·exact⟨_,rfl,hv2⟩
   ·exact⟨_,rfl,hv3⟩
   ·exact⟨_,rfl,hv4⟩
  obtain⟨cv,hcv,hcok⟩:=hval
  refine⟨_,_,digOf f x y - 2,cv,rfl,⟨_,Heap.get?_push_size _ rfl,rfl,_,rfl⟩,?_,hcv,by omega,B,_,_,oV (costAt (digOf f x y - 2)),S2,hcok,fun h3 S3=>?_⟩
  ·rw [e2]
   exact .sub (.name okLaw S2 7 rfl rfl) .cInt
  have hcle:∀c,costAt (digOf f x y - 2)=some c→c≤5:=fun c e=>costAt_le e
  generalize costAt (digOf f x y - 2)=oc at hcok S3 hcle
  have S3:St B ((L,FrameO nmLaw (avL D net bo s gl (.int (x:Nat)) (.int (y:Nat)) (.int (digOf f x y:Nat)) (oV oc) a9 a10 a11 a12 a13))::(rowsO ra xs n++(gFr prog w dir n dn (instL dir gd nd ad pd) nd ad pd n r kv q qv++T0))) h3:=S3
  obtain⟨odn,hodn,il⟩:=S3.own (dn,InsD (instL dir gd nd ad pd)) (by simp [gFr])
  have I:InstAt h3 net ox (clsOf dir) (some odn):=instAt (S3.keep _ _ hox) hpl.1 hpl.2.1 hpl.2.2.1 hodn
  refine Cd.expr (.callMeth (.name okLaw S3 4 rfl rfl) (.own (F.bu.inK.in S3) (F.bu.gr.cls dir) (F.mE dir) I il (by cases dir <;> rfl)) (.evCons (.listD (.evCons (.tupleD (.evE (.name okLaw S3 5 rfl rfl) fun vx hvx=>.evE (.name okLaw S3 6 rfl rfl) fun vy hvy=>.evCons
   (.post (P:=fun v h4=>∃dd td,v = .ref dd∧St B ((dd,DictT prog w (dataKvs oc td))::((L,FrameO nmLaw (avL D net bo s gl (.int (x:Nat)) (.int (y:Nat)) (.int (digOf f x y:Nat)) (oV oc) a9 a10 a11 a12 a13))::(rowsO ra xs n++(gFr prog w dir n dn (instL dir gd nd ad pd) nd ad pd n r kv q qv++T0)))) h4)
    (.if_ (.cmp (.name okLaw S3 8 rfl rfl oV_ne) .cNone (.isNone oV_ne)) (fun e=>.dict0 ?_) fun e=>.dictStr S3 (fun h1 S1=>.name okLaw S1 8 rfl rfl oV_ne) fun a v h' hv S4=>?_)
    fun v h4 ⟨dd,td,ev,S4⟩=>.evNil ⟨few (by exact Nat.le_of_ble_eq_true rfl),.evNil ⟨few (by exact Nat.le_of_ble_eq_true rfl),.evNil ?_⟩⟩)))))))
  ·rw [oV_isNone] at e
   obtain rfl:oc=none:=by cases oc <;> first | rfl | contradiction
   exact⟨_,0,rfl,S3.pushM (o:=emptyO) DictT.nil⟩
  ·rw [oV_isNone] at e
   obtain⟨c,rfl⟩:∃c,oc=some c:=by cases oc <;> first | exact⟨_,rfl⟩ | contradiction
   obtain⟨tv,rfl⟩:=hv
   exact⟨a,tv,rfl,S4⟩
  ·subst ev
   obtain⟨tx,rfl⟩:=hvx
   obtain⟨ty,rfl⟩:=hvy
   obtain⟨od,hod,ed⟩:=S4.mem (i:=0) rfl
   have hsm:(dd == sysModules)=false:=S4.notMods (i:=0) rfl
   have S5:=S4.freeze0 hod
   have hle1:=PM.le_put (o:=od) (S4.off _ (.head _))
   have S6:=S5.pushB (o:={ cls:= .type "tuple",data:= .seq ([Value.int (x:Nat) tx,.int (y:Nat) ty,.ref dd]:List Value).toArray})
   have hle2:=PM.le_put (o:={ cls:= .type "tuple",data:= .seq ([Value.int (x:Nat) tx,.int (y:Nat) ty,.ref dd]:List Value).toArray}) (S5.notB_of_none (St.push_none h4))
   generalize hte:h4.objs.size=te at S6 hle2 ⊢
   generalize h4.push { cls:= .type "tuple",data:= .seq ([Value.int (x:Nat) tx,.int (y:Nat) ty,.ref dd]:List Value).toArray} =h5 at S6 ⊢
   have S7:=S6.pushB (o:={ cls:= .type "list",data:= .seq ([Value.ref te]:List Value).toArray})
   have hle3:=PM.le_put (o:={ cls:= .type "list",data:= .seq ([Value.ref te]:List Value).toArray}) (S6.notB_of_none (St.push_none h5))
   generalize h5.objs.size=le at S7 hle3 ⊢
   generalize h5.push { cls:= .type "list",data:= .seq ([Value.ref te]:List Value).toArray} =h6 at S7 ⊢
   have hb:B.le _:=PM.le_trans hle1 (PM.le_trans hle2 hle3)
   have Ed:EdgeB prog w _ le x y oc dd:=⟨⟨_,te,_,tx,ty,PM.put_self,⟨rfl,_,rfl⟩,hle3 _ _ PM.put_self,⟨rfl,_,rfl⟩⟩,⟨od,td,hle3 _ _ (hle2 _ _ PM.put_self),ed⟩,hsm⟩
   have F7:=F.bu.le hb
   refine⟨.ofFn S7 ((F.fE dir).le hb),(adde_ok (A:=A) R F7 ((F.fE dir).le hb) (F.gLen.le hb) hn (hb _ _ hox) hpl hx hy hE hE2 Ed (G.le hb) (S7.perm perm6.symm)).tr.post fun v h8 zq0=>?_⟩
   obtain⟨ev,B',kv',qv',hle,S8,G'⟩:=zq0
   have hB:B.le B':=PM.le_trans hb hle
   have S9:=S8.perm perm6
   have TB9:=TB.le hB
   have hj:∀{T1:List (Addr×OP)} {avs:List AV} {zs:Nat→Array Value} {k:Nat},k<n→((L,FrameO nmLaw avs)::(rowsO ra zs n++T1))[1+(n - 1 - k)]?=some (ra k,ListO (zs k)):=fun {T1 avs zs k} hk=>mid_get (f:=[(L,FrameO nmLaw avs)]) (rowsO_get hk)
   have hset:∀{T1:List (Addr×OP)} {avs:List AV} {zs:Nat→Array Value} {k:Nat} {y:Array Value},k<n→((L,FrameO nmLaw avs)::(rowsO ra zs n++T1)).set (1+(n - 1 - k)) (ra k,ListO y)=(L,FrameO nmLaw avs)::(rowsO ra (setA zs k y) n++T1):=fun {T1 avs zs k y} hk=>by
    have:=mid_set (f:=[(L,FrameO nmLaw avs)]) (m:=rowsO ra zs n) (t:=T1) (i:=n - 1 - k) (x:=(ra k,ListO y)) (by rw [rowsO_len];exact nt148 hk)
    rw [rowsO_set hk] at this
    exact this
   obtain⟨hsz,_⟩:=T x hx
   refine Cd.storeL S9 (j:=1+(n - 1 - x)) (hj hx) (.name okLaw S9 8 rfl rfl oV_ne) (tab_row rfl (by rfl) rfl S9 TB9 (.name okLaw S9 5 rfl rfl) hx hn) (.name okLaw S9 6 rfl rfl) (nt237 hy hsz) (nt174 hn hsz) fun v1 h9 hv1 SA=>?_
   rw [hset hx] at SA
   have T1:TabIs n (addE true E x y oc) (setA xs x ((xs x).setIfInBounds y v1)):=T.put hx hy (by rw [addE_at];exact hv1) fun a b hab=>by rw [addE_dir,if_neg hab]
   have Ei':EInv dir n x (y+1) (addE dir E x y oc):=Ei.add hx hy hne hdf hcle
   refine Cd.ifB (.val (.name okLaw SA 1 rfl rfl)) (fun hbo=>?_) fun hbo=>?_
   ·have hdd:dir=false:=by rw [hdir,hbo];rfl
    obtain⟨hsz2,_⟩:=T1 y hy
    refine Cd.storeL SA (j:=1+(n - 1 - y)) (hj hy) (.name okLaw SA 8 rfl rfl oV_ne) (tab_row rfl (by rfl) rfl SA TB9 (.name okLaw SA 6 rfl rfl) hy hn) (.name okLaw SA 5 rfl rfl) (nt300 hx hsz hsz2) (nt270 hn hsz hsz2) fun v2 h10 hv2 SB=>?_
    rw [hset hy] at SB
    have T2:TabIs n (addE false E x y oc) (setA (setA xs x ((xs x).setIfInBounds y v1)) y ((setA xs x ((xs x).setIfInBounds y v1) y).setIfInBounds x v2)):=T1.put hy hx (by rw [addE_und hne,if_pos (.inr ⟨rfl,rfl⟩)];exact hv2) fun a b hab=>by
     rw [addE_und hne,addE_dir]
     by_cases q:a=x∧b=y
     ·rw [if_pos (.inl q),if_pos q]
     ·rw [if_neg (fun z=>z.elim q hab),if_neg q]
    exact Cd.nil ⟨rfl,B',_,kv',qv',_,_,_,hB,G',Ei',hdd▸T2,SB⟩
   ·have hdd:dir=true:=by rw [hdir,hbo];rfl
    exact Cd.nil ⟨rfl,B',_,kv',qv',_,_,_,hB,G',Ei',hdd▸T1,SA⟩
 ·exact Cd.nil ⟨rfl,B,E,kv,qv,xs,_,a8,PM.le_refl _,G,Ei.skip,T,S1⟩
end
end
section
set_option tactic.hygienic false
open PySem PySem.W PyProof.Rows
variable [GenI]
theorem AlF.le {prog:Program} {w:World} {K:Frag} {B B':PM} (F:AlF prog w K B) (h:B.le B'):AlF prog w K B':=
 ⟨F.bd.le h,F.item.le h,F.as.le h,F.al.le h,F.exc.le h,F.nest.le h,let ⟨o,fd,a,b⟩:=F.code;⟨o,fd,h _ _ a,b⟩,F.gSum.le h,F.gZip.le h,F.gAs.le h⟩
theorem LawF.le {prog:Program} {w:World} {K:Frag} {B B':PM} (F:LawF prog w K B) (h:B.le B'):LawF prog w K B' where
 al:=F.al.le h
 bu:=F.bu.le h
 fN d:=(F.fN d).le h
 fE d:=(F.fE d).le h
 mN:=F.mN
 mE:=F.mE
 gLen:=F.gLen.le h
 gRange:=F.gRange.le h
 gGraph:=F.gGraph.le h
 gDi:=F.gDi.le h
 gBd:=F.gBd.le h
 gAl:=F.gAl.le h
 gLw:=F.gLw.le h
 fBd:=let ⟨T,oT,tw,nw,a,b,c⟩:=F.fBd;⟨T,oT,tw,nw,a.le h,h _ _ b,c⟩
 bdCode:=let ⟨o,fd,a,b⟩:=F.bdCode;⟨o,fd,h _ _ a,b⟩
 code:=let ⟨o,fd,a,b⟩:=F.code;⟨o,fd,h _ _ a,b⟩
 nest:=F.nest.le h
section
variable {prog:Program} {w:World} {A:Around} {env:Env} {h:Heap} {X:Value→Heap→Prop} {P:Flow→Heap→Prop} {B:PM} {ms:List (Addr×OP)} {L:Addr} {avs:List AV} {rest:List Stmt} {K:Frag}
inductive L6J (prog:Program) (w:World) (B:PM) (dir:Bool) (n x y:Nat) (av:AV→AV→AV→AV→List AV) (fr:(Nat→Array Value)→(Nat→List (Int×Value))→(Nat→List (Int×Value))→List (Addr×OP)) (B':PM) (front:List (Addr×OP)) (avs:List AV):Prop
 | mk (hle:B.le B') (E:EdR) (kv qv:Nat→List (Int×Value)) (xs:Nat→Array Value) (b5 b6 b7 b8:AV) (G:GRows prog w B' dir n E kv qv) (Ei:EInv dir n x y E) (T:TabIs n E xs) (ha:avs=av b5 b6 b7 b8) (hf:front=fr xs kv qv):L6J prog w B dir n x y av fr B' front avs
theorem L6J.le {prog:Program} {w:World} {B:PM} {dir:Bool} {n x y av fr B' front avs} (h:L6J prog w B dir n x y av fr B' front avs):B.le B':=by cases h;assumption
theorem law6 {dir bo:Bool} {net dn gd nd ad pd n s gl D:Nat} {t:Tok} {f:Nat→Int} {ox:Obj} {ra r q:Nat→Addr} {T0:List (Addr×OP)} {a5 a6 a7 a8 a9 a10 a11 a12 a13:AV} (R:Room A 4 20) (F:LawF prog w K B) (hdir:dir=!bo) (hn:n≤6) (hm:CellB B (L+1+1) (.int (n:Nat) t))
  (N:NumsB B D f) (TB:TableB B L n ra) (hox:B net=some ox) (hpl:PlainO (clsOf dir) dn (fun _=>True) ox)
  (S:St B ((L,FrameO nmLaw (avL D net bo s gl a5 a6 a7 a8 a9 a10 a11 a12 a13))::(rowsO ra (fun _=>(List.replicate n Value.none).toArray) n++(gFr prog w dir n dn (instL dir gd nd ad pd) nd ad pd n r noKv q noKv++T0))) h)
  (k:∀B' E kv qv xs a5 a6 a7 a8 h',B.le B'→GRows prog w B' dir n E kv qv→EInv dir n n 0 E→TabIs n E xs→
   St B' ((L,FrameO nmLaw (avL D net bo s gl a5 a6 a7 a8 a9 a10 a11 a12 a13))::(rowsO ra xs n++(gFr prog w dir n dn (instL dir gd nd ad pd) nd ad pd n r kv q qv++T0))) h'→Tr prog w A (execs rest (eL L)) h' P X):
  Tr prog w A (execs (lw 6::rest) (eL L)) h P X:=by
 have em:∀{B' ms h p},B.le B'→St B' ms h→Ev prog w A (eL L) h (.Name "many" p) (.int ((n:Nat):Int)):=fun hle S=>.intOf (cellB_at rfl (by rfl) rfl S (hm.le hle))
 refine Cd.for_ (L:=L) (nms:=nmLaw) (tail:=T0) R.hh n (fun i v _=>∃t,v = .int (i:Nat) t) (fun i=>L6J prog w B dir n i 0 (fun b5 b6 b7 b8=>avL D net bo s gl b5 b6 b7 b8 a9 a10 a11 a12 a13) (fun xs kv qv=>rowsO ra xs n++gFr prog w dir n dn (instL dir gd nd ad pd) nd ad pd n r kv q qv)) ?_ ?_ ?_
 ·refine .rangeOf okLaw S F.gRange (by rfl) (em (PM.le_refl _) S) fun a h1 t1 u1 v1 S1 hr hn1 hk1=>?_
  have hb:B.le (B.put a { cls:= .type "range",dict:=none,data:= .fields #[.int 0 t1,.int (n:Nat) u1,.int 1 v1],slots:= #[]}):=PM.le_put (S.notB_of_none hn1)
  have S2:=S1.addB (a:=a) (S.notMs_of_none hn1) hr
  refine⟨B,_,_,(by rw [List.append_assoc];exact S1),⟨PM.le_refl _,_,_,_,_,_,_,_,_,⟨fun k hk=>.nil,fun d k hk=>.nil⟩,.zero,.zero,rfl,rfl⟩,Turns.range hr (by omega) S1.size2,fun i B' fr av hJ=>hJ.le⟩
 ·rintro i v I qI P1 B1 front avs h1 hi ⟨t1,rfl⟩ ⟨hle,E,kv,qv,xs,b5,b6,b7,b8,G,Ei,T,rfl,rfl⟩ S1
  refine .asgName okLaw S1 5 rfl (av:= .int (i:Nat)) ⟨t1,rfl⟩ fun h2 S2=>?_
  have S2:St B1 ((L,FrameO nmLaw (avL D net bo s gl (.int (i:Nat)) b6 b7 b8 a9 a10 a11 a12 a13))::((rowsO ra xs n++gFr prog w dir n dn (instL dir gd nd ad pd) nd ad pd n r kv q qv)++(I,qI)::T0)) h2:=S2
  show Tr prog w A (execs [in6] (eL L)) h2 _ noX
  refine Cd.for_ (L:=L) (nms:=nmLaw) (tail:=(I,qI)::T0) R.hh n (fun j v _=>∃t,v = .int (j:Nat) t) (fun j=>L6J prog w B1 dir n i j (fun _ b6 b7 b8=>avL D net bo s gl (.int (i:Nat)) b6 b7 b8 a9 a10 a11 a12 a13) (fun xs kv qv=>rowsO ra xs n++gFr prog w dir n dn (instL dir gd nd ad pd) nd ad pd n r kv q qv)) ?_ ?_ ?_
  ·refine .rangeOf okLaw S2 (F.gRange.le hle) (by rfl) (em hle S2) fun a h1 t1 u1 v1 S1 hr hn1 hk1=>?_
   exact⟨B1,_,_,S1,⟨PM.le_refl _,E,kv,qv,xs,b5,b6,b7,b8,G,Ei,T,rfl,rfl⟩,Turns.range hr (by omega) S1.size2,fun i B' fr av hJ=>hJ.le⟩
  ·rintro j v I2 q2 P2 B2 front avs h3 hj ⟨t2,rfl⟩ ⟨hle2,E,kv,qv,xs,b5,b6,b7,b8,G,Ei,T,rfl,rfl⟩ S3
   refine .asgName okLaw S3 6 rfl (av:= .int (j:Nat)) ⟨t2,rfl⟩ fun h4 S4=>?_
   have S4:St B2 ((L,FrameO nmLaw (avL D net bo s gl (.int (i:Nat)) (.int (j:Nat)) b7 b8 a9 a10 a11 a12 a13))::(rowsO ra xs n++(gFr prog w dir n dn (instL dir gd nd ad pd) nd ad pd n r kv q qv++(I2,q2)::(I,qI)::T0))) h4:=by
    have:=S4
    rw [List.append_assoc] at this
    exact this
   have hB:=PM.le_trans hle hle2
   refine(law6_turn R (F.le hB) hdir hn hi hj (N.le hB) (TB.le hB) (hB _ _ hox) hpl G Ei T S4).post fun fl h5 zq0=>?_
   obtain⟨ef,B3,E3,kv3,qv3,xs3,c7,c8,hle3,G3,Ei3,T3,S5⟩:=zq0
   subst ef
   exact⟨B3,_,_,(by rw [List.append_assoc];exact S5),PM.le_trans hle2 hle3,E3,kv3,qv3,xs3,.any,_,c7,c8,G3,Ei3,T3,rfl,rfl⟩
  ·rintro B2 front avs h3 ⟨hle2,E,kv,qv,xs,b5,b6,b7,b8,G,Ei,T,rfl,rfl⟩ S3
   exact Cd.nil ⟨B2,_,_,S3,PM.le_trans hle hle2,E,kv,qv,xs,_,b6,b7,b8,G,Ei.row,T,rfl,rfl⟩
 ·rintro B1 front avs h1 ⟨hle,E,kv,qv,xs,b5,b6,b7,b8,G,Ei,T,rfl,rfl⟩ S1
  exact k B1 E kv qv xs b5 b6 b7 b8 h1 hle G Ei T (by rw [List.append_assoc] at S1;exact S1)
end
end
section
open PySem PySem.W PyProof.Rows
variable [GenI]
inductive WalkN (W:WRel) (g:Nat):Nat→Nat→Nat→Prop where
 | nil {k}:WalkN W g k g 0
 | cons {k x y c d}:W x y c→WalkN W g k y d→WalkN W g (k+1) x (c+d)
theorem WalkN.mono {W:WRel} {g k x d} (h:WalkN W g k x d):∀{k'},k≤k'→WalkN W g k' x d:=by
 induction h with
 | nil=>intro k' _;exact .nil
 | cons e _ ih=>
  intro k' hk
  obtain⟨j,rfl⟩:∃j,k'=j+1:=⟨k' - 1,by exact nt116 hk⟩
  exact .cons e (ih (nt115 hk))
theorem WalkN.walk {W:WRel} {g k x d} (h:WalkN W g k x d):Walk W x g d:=by
 induction h with
 | nil=>exact .nil
 | cons e _ ih=>exact .cons e ih
theorem WalkN.le {W:WRel} {g k x d b} (hb:∀x y c,W x y c→c≤b) (h:WalkN W g k x d):d≤k*b:=by
 induction h with
 | nil=>exact Nat.zero_le _
 | cons e _ ih=>have:=hb _ _ _ e;rw [Nat.succ_mul];exact nt327 ih this
theorem Way.tail {W:WRel} {x y g:Nat} {p:List Nat} {d:Nat} (h:Way W y p g d):x∈p→∃p' d',Way W x p' g d'∧d'≤d∧p'.Sublist p:=by
 induction h with
 | @one y=>
  intro hx
  obtain rfl:=List.mem_singleton.mp hx
  exact⟨_,_,.one,Nat.le_refl _,List.Sublist.refl _⟩
 | @cons y z g l c d e r ih=>
  intro hx
  by_cases q:x=y
  ·subst q
   exact⟨_,_,.cons e r,Nat.le_refl _,List.Sublist.refl _⟩
  ·rcases List.mem_cons.mp hx with q' | hx
   ·exact absurd q' q
   ·obtain⟨p',d',h1,h2,h3⟩:=ih hx
    exact⟨p',d',h1,by exact nt277 h2,h3.trans (List.sublist_cons_self ..)⟩
theorem simple {W:WRel} {x g d:Nat} (h:Walk W x g d):∃p d',Way W x p g d'∧d'≤d∧p.Nodup:=by
 have key:∀{x d},Walk (fun a b d=>W b a d) g x d→∃p d',Way W x p g d'∧d'≤d∧p.Nodup:=by
  intro x d h
  induction h with
  | nil=>exact⟨_,_,.one,Nat.le_refl _,by simp⟩
  | @snoc y z c d _ e ih=>
   obtain⟨p,d',h1,h2,h3⟩:=ih
   by_cases q:z∈p
   ·obtain⟨p',d2,k1,k2,k3⟩:=Way.tail h1 q
    exact⟨p',d2,k1,by exact nt325 h2 k2,h3.sublist k3⟩
   ·exact⟨z::p,_,.cons e h1,by exact nt278 h2,List.nodup_cons.mpr ⟨q,h3⟩⟩
 exact key h.rev
theorem Way.bound {W:WRel} {n x g d:Nat} {p:List Nat} (hr:∀x y c,W x y c→x<n∧y<n) (hg:g<n) (h:Way W x p g d):∀z∈p,z<n:=by
 induction h with
 | one=>intro z hz;rw [List.mem_singleton.mp hz];exact hg
 | cons e _ ih=>
  intro z hz
  rcases List.mem_cons.mp hz with rfl | hz
  ·exact(hr _ _ _ e).1
  ·exact ih hg z hz
theorem Way.toN {W:WRel} {x g d:Nat} {p:List Nat} (h:Way W x p g d):WalkN W g (p.length - 1) x d:=by
 induction h with
 | one=>exact .nil
 | @cons x y z l c d e r ih=>
  have hl:1≤l.length:=by cases r <;> simp
  have:(x::l).length - 1=(l.length - 1)+1:=by rw [List.length_cons];exact nt41 hl
  rw [this]
  exact .cons e ih
theorem short {W:WRel} {n x g d:Nat} (hr:∀x y c,W x y c→x<n∧y<n) (hg:g<n) (h:Walk W x g d):∃d',d'≤d∧WalkN W g (n - 1) x d':=by
 obtain⟨p,d',h1,h2,h3⟩:=simple h
 have hb:=h1.bound hr hg
 have hlen:p.length≤n:=by
  have:=nodup_len (m:=List.range n) h3 fun z hz=>List.mem_range.mpr (hb z hz)
  rwa [List.length_range] at this
 exact⟨d',h2,h1.toN.mono (nt238 hg hlen)⟩
noncomputable abbrev TRel:=Nat→Nat→Option Nat
noncomputable abbrev WT (T:TRel):WRel:=fun x y c=>T x y=some c
noncomputable def relax (T:TRel) (v w:Nat) (nd:Nat→Option Nat):Nat→Option Nat:=
 match T v w,nd w with
 | some c,some d=>match nd v with
  | none=>fun k=>if k=v then some (c+d)else nd k
  | some m=>if c+d<m then fun k=>if k=v then some (c+d)else nd k else nd
 | _,_=>nd
theorem relax_cases {T:TRel} {v w:Nat} {nd:Nat→Option Nat}:(relax T v w nd=nd∧∀c d,T v w=some c→nd w=some d→∃m,nd v=some m∧m≤c+d)∨
  ∃c d,T v w=some c∧nd w=some d∧(∀m,nd v=some m→c+d<m)∧relax T v w nd=fun k=>if k=v then some (c+d)else nd k:=by
 unfold relax
 cases h1:T v w with
 | none=>exact .inl ⟨rfl,by nofun⟩
 | some c=>
  cases h2:nd w with
  | none=>exact .inl ⟨rfl,by nofun⟩
  | some d=>
   cases h3:nd v with
   | none=>exact .inr ⟨c,d,rfl,rfl,by nofun,rfl⟩
   | some m=>
    by_cases q:c+d<m
    ·exact .inr ⟨c,d,rfl,rfl,fun m' e=>by obtain rfl:=Option.some.inj e;exact q,by simp [q]⟩
    ·exact .inl ⟨by simp [q],fun c' d' e1 e2=>by obtain rfl:=Option.some.inj e1;obtain rfl:=Option.some.inj e2;exact⟨m,rfl,by exact nt283 q⟩⟩
theorem relax_dec {T:TRel} {v w:Nat} {nd:Nat→Option Nat} {x d:Nat} (h:nd x=some d):∃d',relax T v w nd x=some d'∧d'≤d:=by
 rcases relax_cases (T:=T) (v:=v) (w:=w) (nd:=nd)with⟨e,_⟩ | ⟨c,d',_,_,h3,e⟩
 ·rw [e];exact⟨d,h,Nat.le_refl _⟩
 ·rw [e]
  by_cases q:x=v
  ·subst q
   exact⟨c+d',by simp,by have:=h3 d h;exact nt219 this⟩
  ·exact⟨d,by simp [q,h],Nat.le_refl _⟩
theorem relax_hit {T:TRel} {v w c d:Nat} {nd:Nat→Option Nat} (h1:T v w=some c) (h2:nd w=some d):∃d',relax T v w nd v=some d'∧d'≤c+d:=by
 rcases relax_cases (T:=T) (v:=v) (w:=w) (nd:=nd)with⟨e,k⟩ | ⟨c',d',k1,k2,_,e⟩
 ·obtain⟨m,h3,h4⟩:=k c d h1 h2
  rw [e];exact⟨m,h3,h4⟩
 ·rw [h1] at k1;rw [h2] at k2;obtain rfl:=Option.some.inj k1;obtain rfl:=Option.some.inj k2
  rw [e];exact⟨c+d,by simp,Nat.le_refl _⟩
structure BInv (T:TRel) (g k v w:Nat) (nd:Nat→Option Nat):Prop where
 sound:∀x d,nd x=some d→Walk (WT T) x g d
 full:∀x d,WalkN (WT T) g k x d→∃m,nd x=some m∧m≤d
 part:∀a b c d,before v w a b→T a b=some c→WalkN (WT T) g k b d→∃m,nd a=some m∧m≤c+d
theorem BInv.zero {T:TRel} {g:Nat}:BInv T g 0 0 0 fun k=>if k=g then some 0 else none:=by
 refine⟨fun x d e=>?_,fun x d h=>?_,fun a b c d h=>?_⟩
 ·split at e
  ·rename_i q;subst q;obtain rfl:=Option.some.inj e;exact .nil
  ·contradiction
 ·cases h
  exact⟨0,by simp,Nat.le_refl _⟩
 ·unfold before at h;exact(nt126 h).elim
theorem BInv.step {T:TRel} {g k v w nd} (H:BInv T g k v w nd):BInv T g k v (w+1) (relax T v w nd):=by
 refine⟨fun x d e=>?_,fun x d h=>?_,fun a b c d h e hw=>?_⟩
 ·rcases relax_cases (T:=T) (v:=v) (w:=w) (nd:=nd)with⟨e',_⟩ | ⟨c,d',h1,h2,_,e'⟩
  ·rw [e'] at e;exact H.sound x d e
  ·rw [e'] at e
   dsimp only at e
   split at e
   ·rename_i q;subst q;obtain rfl:=Option.some.inj e
    exact .cons h1 (H.sound _ _ h2)
   ·exact H.sound x d e
 ·obtain⟨m,h1,h2⟩:=H.full x d h
  obtain⟨m',h3,h4⟩:=relax_dec (T:=T) (v:=v) (w:=w) h1
  exact⟨m',h3,by exact nt281 h2 h4⟩
 ·by_cases q:before v w a b
  ·obtain⟨m,h1,h2⟩:=H.part a b c d q e hw
   obtain⟨m',h3,h4⟩:=relax_dec (T:=T) (v:=v) (w:=w) h1
   exact⟨m',h3,by exact nt317 h2 h4⟩
  ·have:a=v∧b=w:=by unfold before at h q;exact nt301 h q
   obtain⟨rfl,rfl⟩:=this
   obtain⟨m,h1,h2⟩:=H.full b d hw
   obtain⟨m',h3,h4⟩:=relax_hit e h1
   exact⟨m',h3,by exact nt326 h2 h4⟩
theorem BInv.row {T:TRel} {n g k v nd} (hr:∀x y c,T x y=some c→x<n∧y<n) (H:BInv T g k v n nd):BInv T g k (v+1) 0 nd:=
 ⟨H.sound,H.full,fun a b c d h e=>H.part a b c d (by have:=hr a b c e;unfold before at *;exact nt299 h this) e⟩
theorem BInv.turn {T:TRel} {n g k nd} (hr:∀x y c,T x y=some c→x<n∧y<n) (H:BInv T g k n 0 nd):BInv T g (k+1) 0 0 nd:=by
 refine⟨H.sound,fun x d h=>?_,fun a b c d h=>by unfold before at h;exact(nt126 h).elim⟩
 generalize hk:k+1=k' at h
 cases h with
 | nil=>exact H.full _ _ .nil
 | cons e r=>
  cases hk
  exact H.part _ _ _ _ (by have:=hr _ _ _ e;unfold before;exact nt239 this) e r
theorem BInv.least {T:TRel} {n g nd} (hr:∀x y c,T x y=some c→x<n∧y<n) (hg:g<n) (hc:∀x y c,T x y=some c→c≤5) (hn:n≤6) (H:BInv T g (n - 1) 0 0 nd) (x:Nat):
  (∀d,nd x=some d→Walk (WT T) x g d∧(∀δ,Walk (WT T) x g δ→d≤δ)∧d≤25)∧(nd x=none→∀δ,¬Walk (WT T) x g δ):=by
 have low:∀d,nd x=some d→∀δ,Walk (WT T) x g δ→d≤δ∧d≤25:=fun d e δ h=>by
  obtain⟨d',h1,h2⟩:=short hr hg h
  obtain⟨m,h3,h4⟩:=H.full x d' h2
  rw [e] at h3;obtain rfl:=Option.some.inj h3
  have:=h2.le hc
  have:(n - 1)*5≤25:=nt150 hg hn
  exact nt324 h1 h4 ‹_› this
 refine⟨fun d e=>⟨H.sound x d e,fun δ h=>(low d e δ h).1,(low d e d (H.sound x d e)).2⟩,fun e δ h=>?_⟩
 obtain⟨d',h1,h2⟩:=short hr hg h
 obtain⟨m,h3,h4⟩:=H.full x d' h2
 rw [e] at h3;contradiction
end
section
set_option tactic.hygienic false
open PySem PySem.W PyProof.Rows
variable [GenI]
structure TabT (B:PM) (L n:Nat) (E:EdR):Prop where
 at_:∃ra xs,TableB B L n ra∧TabIs n E xs∧∀v<n,∃o,B (ra v)=some o∧ListO (xs v) o
theorem TabT.le {B B':PM} {L n E} (k:TabT B L n E) (h:B.le B'):TabT B' L n E:=let ⟨ra,xs,a,b,c⟩:=k.at_;⟨ra,xs,a.le h,b,fun v hv=>let ⟨o,e,l⟩:=c v hv;⟨o,h _ _ e,l⟩⟩
noncomputable def NeedIs (n:Nat) (nd:Nat→Option Nat) (xs:Array Value):Prop:=xs.size=n∧∀i<n,∃v,xs[i]?=some v∧(oV (nd i)).ok v
theorem NeedIs.zero {n}:NeedIs n (fun _=>none) (List.replicate n Value.none).toArray:=⟨by simp,fun w hw=>⟨.none,by simp [hw],rfl⟩⟩
theorem NeedIs.put {n nd nd' xs v x} (H:NeedIs n nd xs) (hv:v<n) (hx:(oV (nd' v)).ok x) (he:∀a,a≠v→nd' a=nd a):NeedIs n nd' (xs.setIfInBounds v x):=by
 refine⟨by simpa using H.1,fun b hb=>?_⟩
 by_cases q:b=v
 ·subst q
  exact⟨x,by rw [Array.getElem?_setIfInBounds_self];simp [H.1,hv],hx⟩
 ·obtain⟨y,e1,e2⟩:=H.2 b hb
  exact⟨y,by rw [Array.getElem?_setIfInBounds_ne (nt195 q)];exact e1,by rw [he b q];exact e2⟩
noncomputable def in9:Stmt:=(fnBody (lw 9)).getD 0 (.Pass default)
noncomputable def in9b:Stmt:=(fnBody in9).getD 0 (.Pass default)
noncomputable def inner9:List Stmt:=fnBody in9b
section
variable {prog:Program} {w:World} {A:Around} {env:Env} {h:Heap} {X:Value→Heap→Prop} {P:Flow→Heap→Prop} {B:PM} {ms:List (Addr×OP)} {L:Addr} {avs:List AV} {rest:List Stmt} {K:Frag}
theorem tab_at {n i j:Nat} {E:EdR} {e1 e2:PySem.Expr} {p q r:Pos} (hk:env.scope.kind = .function) (hl:env.kindOf "table" =some .cell) (hc:env.cells.lookup ("table" :Str)=some (L+1+3)) (S:St B ms h) (T:TabT B L n E) (h1:Ev prog w A env h e1 (.int (i:Nat))) (h2:Ev prog w A env h e2 (.int (j:Nat))) (hi:i<n) (hj:j<n) (hn:n≤6)
  (hsl:∀va vb,subscripted e1 false va vb=operate [va,vb] (getItem va vb):=by intro _ _;with_unfolding_all rfl) (hsl2:∀va vb,subscripted e2 false va vb=operate [va,vb] (getItem va vb):=by intro _ _;with_unfolding_all rfl):Ev prog w A env h (.Subscript (.Subscript (.Name "table" p) e1 q) e2 r) (oV (E i j).join):=by
 obtain⟨ra,xs,TB,Tx,hr⟩:=T.at_
 obtain⟨o,ho,c,m,d⟩:=hr i hi
 obtain⟨_,hx⟩:=Tx i hi
 obtain⟨v,hv,hok⟩:=hx j hj
 exact .subL (tab_row hk hl hc S TB h1 hi hn hsl) h2 ⟨o,S.keep _ _ ho,c,m,d⟩ hv hok (by lia) hsl2
theorem need_at {n i k:Nat} {nl:Addr} {nd:Nat→Option Nat} {xs:Array Value} {e:PySem.Expr} {p q:Pos} (hk:env.scope.kind = .function) (hl:env.kindOf "need" =some .cell) (hc:env.cells.lookup ("need" :Str)=some (L+1+4)) (S:St B ms h) (hcell:CellB B (L+1+4) (.ref nl)) (hj:ms[k]?=some (nl,ListO xs)) (N:NeedIs n nd xs) (he:Ev prog w A env h e (.int (i:Nat))) (hi:i<n) (hn:n≤6)
  (hsl:∀va vb,subscripted e false va vb=operate [va,vb] (getItem va vb):=by intro _ _;with_unfolding_all rfl):Ev prog w A env h (.Subscript (.Name "need" p) e q) (oV (nd i)):=by
 obtain⟨o,ho,c,m,d⟩:=S.mem hj
 obtain⟨v,hv,hok⟩:=N.2 i hi
 exact .subL (cellB_at hk hl hc S hcell) he ⟨o,ho,c,m,d⟩ hv hok (by lia) hsl
theorem law7 {n:Nat} {t:Tok} {tail:List (Addr×OP)} (hn:n≤6) (hm:CellB B (L+1+1) (.int (n:Nat) t)) (S:St B ((L,FrameO nmLaw avs)::(L+1+4,CellW none)::tail) h)
  (k:∀B' nl h',B.le B'→CellB B' (L+1+4) (.ref nl)→St B' ((L,FrameO nmLaw avs)::(nl,ListO (List.replicate n Value.none).toArray)::tail) h'→Tr prog w A (execs rest (eL L)) h' P X):
  Tr prog w A (execs (lw 7::rest) (eL L)) h P X:=by
 refine Cd.assignCell (x:= "need") (c:=L+1+4) rfl (by rfl) rfl (.binop (.listD (.evE .cNone fun v hv=>.evNil ⟨few (by exact Nat.le_of_ble_eq_true rfl),?_⟩)))
 have hv':v = .none:=hv
 subst hv'
 have S2:=S.pushX { cls:= .type "list",data:= .seq ([Value.none]:List Value).toArray}
 have hl:(h.push { cls:= .type "list",data:= .seq ([Value.none]:List Value).toArray}).get? h.objs.size=some { cls:= .type "list",data:= .seq #[Value.none]}:=Heap.get?_push_size _ rfl
 refine .ofEv (.intOf (cellB_at rfl (by rfl) rfl S2 hm)) fun v hv=>?_
 obtain⟨t2,rfl⟩:=hv
 refine .mulList S2 hl (nt94 hn) fun a h3 S3=>⟨B,_,2,none,S3,rfl,fun h4 S4=>?_⟩
 have S4:St B ((a,LiO (List.replicate n Value.none))::(L,FrameO nmLaw avs)::(L+1+4,CellW (some (.val (.ref a))))::tail) h4:=S4
 have S5:=(S4.weak0 fun o ho=>LiO.list ho).perm (front2 (a:=(a,ListO (List.replicate n Value.none).toArray)) (b:=(L,FrameO nmLaw avs)) (c:=(L+1+4,CellW (some (.val (.ref a))))) (l:=tail))
 obtain⟨B',hle,hc,S6⟩:=St.freezeCell S5
 exact k B' a h4 hle hc (S6.perm (List.Perm.swap ..))
theorem law8 {n nl D net s:Nat} {bo:Bool} {a5 a6 a7 a8 a9 a10 a11 a12 a13:AV} {tail:List (Addr×OP)} (hn:n≤6) (h2:2≤n) (hc:CellB B (L+1+4) (.ref nl)) (S:St B ((L,FrameO nmLaw (avL D net bo s (n - 1) a5 a6 a7 a8 a9 a10 a11 a12 a13))::(nl,ListO (List.replicate n Value.none).toArray)::tail) h)
  (k:∀xs h',NeedIs n (fun k=>if k=n - 1 then some 0 else none) xs→St B ((L,FrameO nmLaw (avL D net bo s (n - 1) a5 a6 a7 a8 a9 a10 a11 a12 a13))::(nl,ListO xs)::tail) h'→Tr prog w A (execs rest (eL L)) h' P X):
  Tr prog w A (execs (lw 8::rest) (eL L)) h P X:=by
 refine Cd.storeL S (j:=1) (k:=n - 1) rfl .cInt (cellB_at rfl (by rfl) rfl S hc) (.name okLaw S 3 rfl rfl) (by simp;exact nt89 hn h2) (by simp;exact nt90 hn h2) fun v h1 hv S1=>?_
 refine k _ h1 (NeedIs.zero.put (nt89 hn h2) ?_ fun a ha=>by rw [if_neg ha]) S1
 rw [if_pos rfl];exact hv
theorem relax_turn {n x y nl D net s gl:Nat} {bo:Bool} {E:EdR} {nd:Nat→Option Nat} {xs:Array Value} {a7 a8 a9 a10 a11 a12 a13:AV} {tail:List (Addr×OP)} (hn:n≤6) (hx:x<n) (hy:y<n) (hc:CellB B (L+1+4) (.ref nl)) (T:TabT B L n E) (N:NeedIs n nd xs)
  (S:St B ((L,FrameO nmLaw (avL D net bo s gl (.int (x:Nat)) (.int (y:Nat)) a7 a8 a9 a10 a11 a12 a13))::(nl,ListO xs)::tail) h):
  Tr prog w A (execs inner9 (eL L)) h (fun fl h'=>fl = .next∧∃xs',NeedIs n (relax (fun a b=>(E a b).join) x y nd) xs'∧St B ((L,FrameO nmLaw (avL D net bo s gl (.int (x:Nat)) (.int (y:Nat)) a7 a8 a9 a10 a11 a12 a13))::(nl,ListO xs')::tail) h') noX:=by
 have eT:∀{p q r s t:Pos},Ev prog w A (eL L) h (.Subscript (.Subscript (.Name "table" p) (.Name "v" q) r) (.Name "w" s) t) (oV (E x y).join):=fun {p q r s t}=>tab_at rfl (by rfl) rfl S T (.name okLaw S 5 rfl rfl) (.name okLaw S 6 rfl rfl) hx hy hn
 have eNw:∀{p q r:Pos},Ev prog w A (eL L) h (.Subscript (.Name "need" p) (.Name "w" q) r) (oV (nd y)):=fun {p q r}=>need_at (k:=1) rfl (by rfl) rfl S hc rfl N (.name okLaw S 6 rfl rfl) hy hn
 have eNv:∀{p q r:Pos},Ev prog w A (eL L) h (.Subscript (.Name "need" p) (.Name "v" q) r) (oV (nd x)):=fun {p q r}=>need_at (k:=1) rfl (by rfl) rfl S hc rfl N (.name okLaw S 5 rfl rfl) hx hn
 cases e1:(E x y).join with
 | none=>
  rw [e1] at eT
  have er:relax (fun a b=>(E a b).join) x y nd=nd:=by unfold relax;simp only [e1]
  rw [er]
  refine Cd.ifF (.bool (b:=false) (.and (b2:=false) (.cmp eT .cNone .isNotNone) fun hb=>by contradiction)) ?_
  exact Cd.nil ⟨rfl,xs,N,S⟩
 | some c=>
  rw [e1] at eT
  cases e2:nd y with
  | none=>
   rw [e2] at eNw
   have er:relax (fun a b=>(E a b).join) x y nd=nd:=by unfold relax;simp only [e1,e2]
   rw [er]
   refine Cd.ifF (.bool (b:=false) (.and (.cmp eT .cNone .isNotNone) fun _=>.and (b2:=false) (.cmp eNw .cNone .isNotNone) fun hb=>by contradiction)) ?_
   exact Cd.nil ⟨rfl,xs,N,S⟩
  | some d=>
   rw [e2] at eNw
   have put:∀h1 v,AV.ok (.int ((c:Int)+(d:Int))) v→relax (fun a b=>(E a b).join) x y nd=(fun k=>if k=x then some (c+d)else nd k)→
     St B ((L,FrameO nmLaw (avL D net bo s gl (.int (x:Nat)) (.int (y:Nat)) a7 a8 a9 a10 a11 a12 a13))::(nl,ListO (xs.setIfInBounds x v))::tail) h1→
     ∃xs',NeedIs n (relax (fun a b=>(E a b).join) x y nd) xs'∧St B ((L,FrameO nmLaw (avL D net bo s gl (.int (x:Nat)) (.int (y:Nat)) a7 a8 a9 a10 a11 a12 a13))::(nl,ListO xs')::tail) h1:=fun h1 v hv er S1=>by
    rw [er]
    refine⟨_,N.put hx ?_ fun a ha=>by rw [if_neg ha],S1⟩
    rw [if_pos rfl]
    obtain⟨tv,rfl⟩:=hv
    exact⟨tv,by push_cast;rfl⟩
   have store:relax (fun a b=>(E a b).join) x y nd=(fun k=>if k=x then some (c+d)else nd k)→∀{p1 p2 p3 p4 p5 p6 p7 p8 p9 p10 p11 p12 p13:Pos},
     Tr prog w A (execs ([.Assign [.Subscript (.Name "need" p1) (.Name "v" p2) p3] (.BinOp (.Subscript (.Subscript (.Name "table" p4) (.Name "v" p5) p6) (.Name "w" p7) p8) .Add (.Subscript (.Name "need" p9) (.Name "w" p10) p11) p12) p13]) (eL L)) h (fun fl h'=>fl = .next∧∃xs',NeedIs n (relax (fun a b=>(E a b).join) x y nd) xs'∧St B ((L,FrameO nmLaw (avL D net bo s gl (.int (x:Nat)) (.int (y:Nat)) a7 a8 a9 a10 a11 a12 a13))::(nl,ListO xs')::tail) h') noX:=by
    intro er p1 p2 p3 p4 p5 p6 p7 p8 p9 p10 p11 p12 p13
    refine Cd.storeL S (j:=1) (k:=x) rfl (.add (a:=(c:Int)) (b:=(d:Int)) eT eNw) (cellB_at rfl (by rfl) rfl S hc) (.name okLaw S 5 rfl rfl) (by rw [N.1];exact hx) (by rw [N.1];exact nt94 hn) fun v h1 hv S1=>?_
    exact Cd.nil ⟨rfl,put h1 v hv er S1⟩
   cases e3:nd x with
   | none=>
    rw [e3] at eNv
    have er:relax (fun a b=>(E a b).join) x y nd=(fun k=>if k=x then some (c+d)else nd k):=by unfold relax;simp only [e1,e2,e3]
    refine Cd.ifT (.bool (b:=true) (.and (.cmp eT .cNone .isNotNone) fun _=>.and (.cmp eNw .cNone .isNotNone) fun _=>.and (.bool (b:=true) (.or (b2:=false) (.cmp eNv .cNone .isNone) fun hb=>by contradiction)) fun _=>.andNil)) ?_
    exact store er
   | some m=>
    rw [e3] at eNv
    by_cases hlt:c+d<m
    ·have er:relax (fun a b=>(E a b).join) x y nd=(fun k=>if k=x then some (c+d)else nd k):=by unfold relax;simp only [e1,e2,e3,if_pos hlt]
     refine Cd.ifT (.bool (b:=true) (.and (.cmp eT .cNone .isNotNone) fun _=>.and (.cmp eNw .cNone .isNotNone) fun _=>.and (.bool (b:=true) (.or (.cmp eNv .cNone .isNone) fun _=>.or (b1:=true) (b2:=false) (.eq (.cmp (.add (a:=(c:Int)) (b:=(d:Int)) eT eNw) eNv .lt) (decide_eq_true (nt218 hlt))) fun hb=>by contradiction)) fun _=>.andNil)) ?_
     exact store er
    ·have er:relax (fun a b=>(E a b).join) x y nd=nd:=by unfold relax;simp only [e1,e2,e3,if_neg hlt]
     rw [er]
     refine Cd.ifF (.bool (b:=false) (.and (.cmp eT .cNone .isNotNone) fun _=>.and (.cmp eNw .cNone .isNotNone) fun _=>.and (b1:=false) (b2:=false) (.bool (b:=false) (.or (.cmp eNv .cNone .isNone) fun _=>.or (b1:=false) (.eq (.cmp (.add (a:=(c:Int)) (b:=(d:Int)) eT eNw) eNv .lt) (decide_eq_false (nt284 hlt))) fun _=>.orNil)) fun hb=>by contradiction)) ?_
     exact Cd.nil ⟨rfl,xs,N,S⟩
end
end
section
set_option tactic.hygienic false
open PySem PySem.W PyProof.Rows
variable [GenI]
section
variable {prog:Program} {w:World} {A:Around} {env:Env} {h:Heap} {X:Value→Heap→Prop} {P:Flow→Heap→Prop} {B:PM} {ms:List (Addr×OP)} {L:Addr} {avs:List AV} {rest:List Stmt} {K:Frag}
noncomputable abbrev joinE (E:EdR):TRel:=fun a b=>(E a b).join
inductive L9J (B:PM) (nl:Addr) (n:Nat) (W:TRel) (x y z:Nat) (av:AV→AV→AV→List AV) (B':PM) (front:List (Addr×OP)) (avs:List AV):Prop
 | mk (hB:B=B') (nd:Nat→Option Nat) (xs:Array Value) (b5 b6 b9:AV) (N:NeedIs n nd xs) (BI:BInv W (n - 1) x y z nd) (ha:avs=av b5 b6 b9) (hf:front = [(nl,ListO xs)]):L9J B nl n W x y z av B' front avs
theorem L9J.le {B:PM} {nl n W x y z av B' front avs} (h:L9J B nl n W x y z av B' front avs):B.le B':=by cases h;subst_vars;exact PM.le_refl _
theorem law9 {n nl D net s:Nat} {t:Tok} {bo:Bool} {E:EdR} {nd:Nat→Option Nat} {xs:Array Value} {a5 a6 a7 a8 a9 a10 a11 a12 a13:AV} {tail:List (Addr×OP)} (hh:A.handled=none) (gR:GName B "range" (.type "range")) (hn:n≤6) (h2:2≤n) (hm:CellB B (L+1+1) (.int (n:Nat) t)) (hc:CellB B (L+1+4) (.ref nl)) (T:TabT B L n E) (hr:∀x y c,joinE E x y=some c→x<n∧y<n)
  (N:NeedIs n nd xs) (BI:BInv (joinE E) (n - 1) 0 0 0 nd)
  (S:St B ((L,FrameO nmLaw (avL D net bo s (n - 1) a5 a6 a7 a8 a9 a10 a11 a12 a13))::(nl,ListO xs)::tail) h)
  (k:∀nd xs a5 a6 a9 h',NeedIs n nd xs→BInv (joinE E) (n - 1) (n - 1) 0 0 nd→St B ((L,FrameO nmLaw (avL D net bo s (n - 1) a5 a6 a7 a8 a9 a10 a11 a12 a13))::(nl,ListO xs)::tail) h'→Tr prog w A (execs rest (eL L)) h' P X):
  Tr prog w A (execs (lw 9::rest) (eL L)) h P X:=by
 have em:∀{ms h p},St B ms h→Ev prog w A (eL L) h (.Name "many" p) (.int ((n:Nat):Int)):=fun S=>.intOf (cellB_at rfl (by rfl) rfl S hm)
 have e1:((n - 1:Nat):Int)=(n:Nat) - 1:=nt88 hn h2
 refine Cd.for_ (L:=L) (nms:=nmLaw) (tail:=tail) hh (n - 1) (fun i v _=>∃t,v = .int (i:Nat) t) (fun i=>L9J B nl n (joinE E) i 0 0 fun b5 b6 b9=>avL D net bo s (n - 1) b5 b6 a7 a8 b9 a10 a11 a12 a13) ?_ ?_ ?_
 ·refine .rangeOf (n:=n - 1) okLaw S gR (by rfl) (e1▸ .sub (em S) .cInt) fun a h1 t1 u1 v1 S1 hr _ _=>?_
  exact⟨B,_,_,S1,⟨rfl,nd,xs,a5,a6,a9,N,BI,rfl,rfl⟩,Turns.range hr (by omega) S1.size2,fun i B' fr av hJ=>hJ.le⟩
 ·rintro i v I qI P1 B1 front avs h1 hi ⟨t1,rfl⟩ ⟨rfl,nd,xs,b5,b6,b9,N,BI,rfl,rfl⟩ S1
  refine .asgName okLaw S1 9 rfl (av:= .int (i:Nat)) ⟨t1,rfl⟩ fun h2 S2=>?_
  have S2:St B ((L,FrameO nmLaw (avL D net bo s (n - 1) b5 b6 a7 a8 (.int (i:Nat)) a10 a11 a12 a13))::([(nl,ListO xs)]++(I,qI)::tail)) h2:=S2
  show Tr prog w A (execs [in9] (eL L)) h2 _ noX
  refine Cd.for_ (L:=L) (nms:=nmLaw) (tail:=(I,qI)::tail) hh n (fun j v _=>∃t,v = .int (j:Nat) t) (fun j=>L9J B nl n (joinE E) i j 0 fun b5 b6 _=>avL D net bo s (n - 1) b5 b6 a7 a8 (.int (i:Nat)) a10 a11 a12 a13) ?_ ?_ ?_
  ·refine .rangeOf okLaw S2 gR (by rfl) (em S2) fun a h1 t1 u1 v1 S1 hr _ _=>?_
   exact⟨B,_,_,S1,⟨rfl,nd,xs,b5,b6,b9,N,BI,rfl,rfl⟩,Turns.range hr (by omega) S1.size2,fun i B' fr av hJ=>hJ.le⟩
  ·rintro x v I2 q2 P2 B2 front avs h3 hx ⟨t2,rfl⟩ ⟨rfl,nd,xs,b5,b6,b9,N,BI,rfl,rfl⟩ S3
   refine .asgName okLaw S3 5 rfl (av:= .int (x:Nat)) ⟨t2,rfl⟩ fun h4 S4=>?_
   have S4:St B ((L,FrameO nmLaw (avL D net bo s (n - 1) (.int (x:Nat)) b6 a7 a8 (.int (i:Nat)) a10 a11 a12 a13))::([(nl,ListO xs)]++(I2,q2)::(I,qI)::tail)) h4:=S4
   show Tr prog w A (execs [in9b] (eL L)) h4 _ noX
   refine Cd.for_ (L:=L) (nms:=nmLaw) (tail:=(I2,q2)::(I,qI)::tail) hh n (fun j v _=>∃t,v = .int (j:Nat) t) (fun j=>L9J B nl n (joinE E) i x j fun _ b6 _=>avL D net bo s (n - 1) (.int (x:Nat)) b6 a7 a8 (.int (i:Nat)) a10 a11 a12 a13) ?_ ?_ ?_
   ·refine .rangeOf okLaw S4 gR (by rfl) (em S4) fun a h1 t1 u1 v1 S1 hr _ _=>?_
    exact⟨B,_,_,S1,⟨rfl,nd,xs,b5,b6,b9,N,BI,rfl,rfl⟩,Turns.range hr (by omega) S1.size2,fun i B' fr av hJ=>hJ.le⟩
   ·rintro y v I3 q3 P3 B3 front avs h5 hy ⟨t3,rfl⟩ ⟨rfl,nd,xs,b5,b6,b9,N,BI,rfl,rfl⟩ S5
    refine .asgName okLaw S5 6 rfl (av:= .int (y:Nat)) ⟨t3,rfl⟩ fun h6 S6=>?_
    have S6:St B ((L,FrameO nmLaw (avL D net bo s (n - 1) (.int (x:Nat)) (.int (y:Nat)) a7 a8 (.int (i:Nat)) a10 a11 a12 a13))::(nl,ListO xs)::(I3,q3)::(I2,q2)::(I,qI)::tail) h6:=S6
    refine(relax_turn hn hx hy hc T N S6).post fun fl h7 zq0=>?_
    obtain⟨ef,xs',N',S7⟩:=zq0
    subst ef
    exact⟨B,[(nl,ListO xs')],_,S7,rfl,_,xs',.any,_,.any,N',BI.step,rfl,rfl⟩
   ·rintro B3 front avs h5 ⟨rfl,nd,xs,b5,b6,b9,N,BI,rfl,rfl⟩ S5
    exact Cd.nil ⟨B,_,_,S5,rfl,nd,xs,_,b6,.any,N,BI.row hr,rfl,rfl⟩
  ·rintro B2 front avs h3 ⟨rfl,nd,xs,b5,b6,b9,N,BI,rfl,rfl⟩ S3
   exact Cd.nil ⟨B,_,_,S3,rfl,nd,xs,b5,b6,_,N,BI.turn hr,rfl,rfl⟩
 ·rintro B1 front avs h1 ⟨rfl,nd,xs,b5,b6,b9,N,BI,rfl,rfl⟩ S1
  exact k nd xs b5 b6 b9 h1 N BI S1
end
end
section
set_option tactic.hygienic false
open PySem PySem.W PyProof.Rows
variable [GenI]
noncomputable def baseOf (nd:Nat→Option Nat) (x:Nat):Nat:=match nd x with | none=>9 | some d=>d
noncomputable def partOf (dg:Int) (x:Nat):Nat:=((dg.fdiv (5 ^ x)).fmod 5).toNat
noncomputable def hfOf (nd:Nat→Option Nat) (dg:Int) (x:Nat):Nat:=baseOf nd x*partOf dg x / 4
theorem part_eq (dg:Int) (x:Nat):(dg.fdiv (5 ^ x)).fmod 5=(partOf dg x:Nat):=by
 have:=Int.fmod_nonneg_of_pos (dg.fdiv (5 ^ x)) (b:=5) (by decide)
 unfold partOf;exact nt18 this
theorem part_lt (dg:Int) (x:Nat):partOf dg x<5:=by
 have:=Int.fmod_lt_of_pos (dg.fdiv (5 ^ x)) (b:=5) (by decide)
 have h:=part_eq dg x
 exact nt10 this h
theorem hf_le {nd:Nat→Option Nat} {dg:Int} {x d:Nat} (h:nd x=some d):hfOf nd dg x≤d:=by
 have hp:=part_lt dg x
 have hb:baseOf nd x=d:=by unfold baseOf;rw [h]
 unfold hfOf
 rw [hb]
 have:d*partOf dg x≤d*4:=Nat.mul_le_mul_left d (nt63 hp)
 exact nt180 this
theorem pow5 {y:Nat} (hy:y<6):(5:Int) ^ y≠0∧((5:Int) ^ y).natAbs<1073741824:=by
 have:y=0∨y=1∨y=2∨y=3∨y=4∨y=5:=nt64 hy
 rcases this with rfl | rfl | rfl | rfl | rfl | rfl <;> decide
theorem hf_eq (nd:Nat→Option Nat) (dg:Int) (x:Nat):(((baseOf nd x:Nat):Int)*((partOf dg x:Nat):Int)).fdiv 4=((hfOf nd dg x:Nat):Int):=by
 rw [Int.fdiv_eq_ediv_of_nonneg _ (by decide)]
 unfold hfOf
 push_cast
 rfl
structure NeedB (B:PM) (L n:Nat) (nd:Nat→Option Nat):Prop where
 at_:∃nl o xs,CellB B (L+1+4) (.ref nl)∧B nl=some o∧ListO xs o∧NeedIs n nd xs
theorem NeedB.le {B B':PM} {L n nd} (k:NeedB B L n nd) (h:B.le B'):NeedB B' L n nd:=let ⟨nl,o,xs,a,b,c,d⟩:=k.at_;⟨nl,o,xs,a.le h,h _ _ b,c,d⟩
structure GuessB (B:PM) (L n:Nat) (hf:Nat→Nat):Prop where
 at_:∃gl o ys,CellB B (L+1+6) (.ref gl)∧B gl=some o∧ListO ys.toArray o∧IntsF n (fun i=>(hf i:Nat)) ys
theorem GuessB.le {B B':PM} {L n hf} (k:GuessB B L n hf) (h:B.le B'):GuessB B' L n hf:=let ⟨nl,o,xs,a,b,c,d⟩:=k.at_;⟨nl,o,xs,a.le h,h _ _ b,c,d⟩
theorem IntsF.push {n:Nat} {f:Nat→Int} {ys:List Value} {v:Value} (H:IntsF n f ys) (hv:∃t,v = .int (f n) t):IntsF (n+1) f (ys++[v]):=by
 refine⟨by rw [List.length_append,H.1];rfl,fun j x e=>?_⟩
 by_cases hj:j<n
 ·rw [List.getElem?_append_left (by rw [H.1];exact hj)] at e
  exact H.2 j x e
 ·rw [List.getElem?_append_right (by rw [H.1];exact nt194 hj),H.1] at e
  have:j - n=0:=by
   cases q:j - n with
   | zero=>rfl
   | succ n=>rw [q] at e;simp at e
  rw [this] at e
  have e':v=x:=by simpa using e
  have ej:j=n:=nt193 hj this
  subst e' ej
  exact hv
section
variable {prog:Program} {w:World} {A:Around} {env:Env} {h:Heap} {X:Value→Heap→Prop} {P:Flow→Heap→Prop} {B:PM} {ms:List (Addr×OP)} {L:Addr} {avs:List AV} {rest:List Stmt} {K:Frag}
theorem need_atB {n i:Nat} {nd:Nat→Option Nat} {e:PySem.Expr} {p q:Pos} (hk:env.scope.kind = .function) (hl:env.kindOf "need" =some .cell) (hc:env.cells.lookup ("need" :Str)=some (L+1+4)) (S:St B ms h) (N:NeedB B L n nd) (he:Ev prog w A env h e (.int (i:Nat))) (hi:i<n) (hn:n≤6)
  (hsl:∀va vb,subscripted e false va vb=operate [va,vb] (getItem va vb):=by intro _ _;with_unfolding_all rfl):Ev prog w A env h (.Subscript (.Name "need" p) e q) (oV (nd i)):=by
 obtain⟨nl,o,xs,hcell,ho,⟨c,m,d⟩,N⟩:=N.at_
 obtain⟨v,hv,hok⟩:=N.2 i hi
 exact .subL (cellB_at hk hl hc S hcell) he ⟨o,S.keep _ _ ho,c,m,d⟩ hv hok (by lia) hsl
theorem law10 {n:Nat} {t td:Tok} {dg:Int} {nd:Nat→Option Nat} {tail:List (Addr×OP)} (hh:A.handled=none) (gR:GName B "range" (.type "range")) (hn:n≤6) (hm:CellB B (L+1+1) (.int (n:Nat) t)) (hd:CellB B (L+1+2) (.int dg td)) (N:NeedB B L n nd) (hnd:∀x d,nd x=some d→d≤25)
  (S:St B ((L,FrameO nmLaw avs)::(L+1+6,CellW none)::tail) h)
  (k:∀B' h',B.le B'→GuessB B' L n (hfOf nd dg)→St B' ((L,FrameO nmLaw avs)::tail) h'→Tr prog w A (execs rest (eL L)) h' P X):
  Tr prog w A (execs (lw 10::rest) (eL L)) h P X:=by
 refine Cd.assignCell (x:= "guess") (c:=L+1+6) rfl (by rfl) rfl ?_
 refine .listComp (nms:=nmLaw) (tail:=(L,FrameO nmLaw avs)::(L+1+6,CellW none)::tail) [("need",L+1+4),("digits",L+1+2)] n (fun i B' fr ys=>B'=B∧fr = []∧IntsF i (fun i=>((hfOf nd dg i:Nat):Int)) ys) hh (nt95 hn) okLaw (by with_unfolding_all rfl) ?_ ?_ ?_
 ·exact .rangeOf okLaw S gR (by rfl) (.intOf (cellB_at rfl (by rfl) rfl S hm)) fun a h1 t u v S1 hr _ _=>⟨B,[],a,t,u,v,rfl,hr,S1,rfl,rfl,rfl,fun i v e=>by simp at e⟩
 ·rintro i B' fr ys C I D q h1 hi hy ⟨rfl,rfl,hI⟩ S1 O1
  have S1:St B' ((C,FrameO ["v"] [.int i])::(I,q)::(D,lstO ys)::(L,FrameO nmLaw avs)::(L+1+6,CellW none)::tail) h1:=S1
  obtain⟨p1,p2⟩:=pow5 (Nat.lt_of_lt_of_le hi hn)
  have hbase:(baseOf nd i:Nat)≤25:=by
   unfold baseOf
   cases e:nd i with
   | none=>show 9≤25;decide
   | some d=>exact hnd i d e
  refine .ofEv (av:= .int ((hfOf nd dg i:Nat):Int)) (.eqI (.fdiv (.mul (a:=(baseOf nd i:Nat)) (b:=(partOf dg i:Nat)) (.if_ (b:=(nd i).isNone) (.eq (.cmp (need_atB rfl (by rfl) rfl S1 N (.name O1 S1 0 rfl rfl) hi hn) .cNone (.isNone oV_ne)) oV_isNone) (fun e=>?_) fun e=>?_) (.eqI (.mod (.fdiv (.intOf (cellB_at rfl (by rfl) rfl S1 hd)) (.pow (k:=i) .cInt (.name O1 S1 0 rfl rfl) (.inr rfl) (nt269 hn hi hy)) p1 p2) .cInt (by decide)) (part_eq dg i)) (by lia) (by lia)) .cInt (by decide) (by decide)) (hf_eq nd dg i)) fun v hv'=>⟨B',[],S1,rfl,rfl,hI.push hv'⟩
  ·have eb:baseOf nd i=9:=by unfold baseOf;cases q:nd i <;> simp_all
   rw [eb];exact .cInt
  ·obtain⟨d,e2⟩:∃d,nd i=some d:=by cases q:nd i <;> simp_all
   have eb:baseOf nd i=d:=by unfold baseOf;rw [e2]
   rw [eb]
   have e3:AV.int ((d:Nat):Int)=oV (nd i):=by rw [e2];rfl
   rw [e3]
   exact need_atB rfl (by rfl) rfl S1 N (.name O1 S1 0 rfl rfl) hi hn
 ·rintro D B' fr ys h1 hy ⟨rfl,rfl,hI⟩ S1
  refine⟨B',(D,lstO ys)::(L+1+6,CellW none)::(L,FrameO nmLaw avs)::tail,1,none,S1.perm (List.Perm.cons _ (List.Perm.swap ..)),rfl,fun h2 S2=>?_⟩
  have S2:St B' ((D,lstO ys)::(L+1+6,CellW (some (.val (.ref D))))::(L,FrameO nmLaw avs)::tail) h2:=S2
  obtain⟨oD,hoD,eD⟩:=S2.mem (i:=0) rfl
  have eD':oD=LCg.lst ys:=eD
  subst eD'
  have hle1:=PM.le_put (o:=LCg.lst ys) (S2.off _ (.head _))
  obtain⟨B2,hle2,hc2,S3⟩:=St.freezeCell (S2.freeze0 hoD)
  exact k B2 h2 (PM.le_trans hle1 hle2) ⟨D,_,ys,hc2,hle2 _ _ PM.put_self,⟨rfl,_,rfl⟩,hI⟩ S3
end
end
section
set_option tactic.hygienic false
open PySem PySem.W PyProof.Rows
variable [GenI]
section
variable {prog:Program} {w:World} {A:Around} {env:Env} {h:Heap} {X:Value→Heap→Prop} {P:Flow→Heap→Prop} {B:PM} {ms:List (Addr×OP)} {L:Addr} {nms:List Str} {avs:List AV} {rest:List Stmt} {K:Frag} {pos:Pos}
theorem Cd.asgTwo {x y:Str} {p1 p2:Pos} {e:PySem.Expr} (O:EnvOk env L nms) (S:St B ((L,FrameO nms avs)::ms) h) (i j:Nat) (hx:nms[i]?=some x) (hy:nms[j]?=some y) {av:AV} (he:Ev prog w A env h e av)
  (k:∀h2,St B ((L,FrameO nms ((avs.set i av).set j av))::ms) h2→Tr prog w A (execs rest env) h2 P X) (hnd:nms.Nodup:=by decide):
  Tr prog w A (execs (.Assign [.Name x p1,.Name y p2] e pos::rest) env) h P X:=by
 intro g d tk os Q E hg hq hE
 refine wpAny_execs_cons (wpAny_Assign_two (he g d tk os _ E fun v tk1 hv=>?_))
 refine wpAny_assign_Name (store_at O S hx hv hnd fun h2 tk2 S2=>?_)
 refine wpAny_assign_Name (store_at O S2 hy hv hnd fun h3 tk3 S3=>?_)
 exact k h3 S3 g d tk3 os Q E hg hq hE
inductive CatP (prog:Program) (w:World) (A:Around) (env:Env) (X:Value→Heap→Prop) (P:Flow→Heap→Prop) (L:Addr) (nms:List Str) (rest:List Stmt) (x:Str) (C:Addr) (su:List Stmt) (e:Value) (h':Heap):Prop
 | mk (e':Addr) (B':PM) (avs:List AV) (ms:List (Addr×OP)) (ee:e = .ref e') (S:St B' ((L,FrameO nms avs)::ms) h') (fl:Fly B' ms env e' C h') (hE:ExcB B' x C)
  (k:∀h2,St B' ((L,FrameO nms avs)::ms) h2→Tr prog w (A.mark (some (.ref e'))) (execs su env) h2 (fun f h3=>f = .next∧Tr prog w A (execs rest env) h3 P X) noX)
theorem Cd.tryCatch {b suite:List Stmt} {b0:Stmt} {x:Str} {C:Addr} {np hp:Pos} (O:EnvOk env L nms) (hfr:A.frames=some [env]) (hf:env.frame=some L)
  (h1:Tr prog w A (execs b env) h (fun f h'=>f = .next∧Tr prog w A (execs rest env) h' P X)
   (CatP prog w A env X P L nms rest x C (b0::suite)))
  (hl:env.kindOf x=some .globalImplicit:=by rfl) (hd:(x == ("__debug__" :Str))=false:=by decide):
  Tr prog w A (execs (.Try b [.ExceptHandler (some (.Name x np)) none (b0::suite) hp] [] [] pos::rest) env) h P X:=by
 refine Cd.cons (R:=fun f h'=>f = .next∧Tr prog w A (execs rest env) h' P X) (fun g d tk os Q E hg hq he=>?_) fun f h' r=>.inl r
 refine wpAny_Try_except (h1 g d tk os _ _ hg (fun f h' g' tk' hg' r=>?_) (fun e h' g' tk' hg' z=>?_))
 ·rw [r.1]
  exact wpAny_execs_nil (hq _ _ _ _ hg' ⟨rfl,r.2⟩)
 ·obtain⟨e',B',avs',ms',rfl,S,⟨base,a0,hfl,hB,hm⟩,hE,kk⟩:=z
  refine wpAny_looks_onW hfr hf hfl fun h₄ hheld₄ hsm₄=>?_
  refine wpAny_landsW hheld₄ fun h₅ hheld hsm₅=>?_
  have S5:St B' ((L,FrameO nms avs')::ms') h₅:=Fly.st S hheld.1 hB hm (hsm₄.trans hsm₅)
  obtain⟨mg,bm,N,nm,q,bs,hdct,sn,sub,ab,col,dd,k0,k1,k2,k3,k5,mN,hmg,hni,hk⟩:=hE
  obtain⟨hgs,hC,hN,T⟩:=hk h₅ S5.keep
  obtain⟨ob,hob,hobc⟩:=hheld.there
  refine wpAny_handleBy_cons (codeAny_handlers_test (Ev.global O hl hgs hmg hd g' d tk' os _ _ fun c tk1 hc=>?_)) (by intro q;contradiction)
  have hc':c = .ref C:=hc
  subst hc'
  refine wpAny_excMatches_sub_self hC hob hobc (T.hasType (by decide)) (codeAny_handlers_suite ?_)
  refine lands_againW hheld fun h₆ hfl₆ hsm₆=>?_
  have S6:St B' ((L,FrameO nms avs')::ms') h₆:=Fly.st S hfl₆.1 hB hm ((hsm₄.trans hsm₅).trans hsm₆)
  refine kk h₆ S6 g' d tk1 os _ _ hg' (fun f h7 g7 tk7 hg7 r=>?_) (fun _ _ _ _ _ z=>z.elim)
  exact hq _ _ _ _ hg7 r
end
end
section
set_option tactic.hygienic false
open PySem PySem.W PyProof.Rows
variable [GenI]
noncomputable abbrev lamP (p1 p2:Pos):Arguments:={ posonlyargs:=[],args:=[{ arg:= "v",annotation:=none,pos:=p1},{ arg:= "w",annotation:=none,pos:=p2}],vararg:=none,kwonlyargs:=[],kw_defaults:=[],kwarg:=none,defaults:=[]}
noncomputable abbrev lamB (q1 q2 q3:Pos):PySem.Expr:= .Subscript (.Name "guess" q1) (.Name "v" q2) q3
noncomputable abbrev lamS:Scope:={ kind:= .function,names:=[("v",.local),("w",.local),("guess",.free)],isGenerator:=false,isCoroutine:=false,more:=[]}
noncomputable def TabAt (pos:Pos):OP:=fun o=>∃ps,o=tabObj ps∧TriplesOk ps.toList∧codeAmong pos ps.toList=none
theorem TabAt.zero {pos:Pos} {o:Obj} (h:Tab0 o):TabAt pos o:=⟨#[],h,trivial,rfl⟩
theorem TabAt.next {pos p0:Pos} {o:Obj} (hne:(p0.line == pos.line && p0.col == pos.col)=false) (h:∃ps c',Tab0 (tabObj ps)∧o=tabObj (ps++ #[rawInt p0.line,rawInt p0.col,.ref c'])):TabAt pos o:=by
 obtain⟨ps,c',h0,rfl⟩:=h
 have e:ps = #[]:=by
  have h0':tabObj ps=tabObj #[]:=h0
  injection h0' with _ _ h1
  injection h1
 subst e
 refine⟨_,rfl,trivial,?_⟩
 show(if((p0.line:Int) == pos.line && (p0.col:Int) == pos.col)=true then _ else _)=_
 rw [if_neg]
 ·rfl
 ·intro q
  have q1:=Bool.and_eq_true_iff.mp q
  have h1:p0.line=pos.line:=by have:=beq_iff_eq.mp q1.1;exact nt109 this
  have h2:p0.col=pos.col:=by have:=beq_iff_eq.mp q1.2;exact nt109 this
  rw [h1,h2] at hne
  simp at hne
section
variable {prog:Program} {w:World} {A:Around} {env:Env} {h:Heap} {X:Value→Heap→Prop} {B:PM} {ms:List (Addr×OP)} {L:Addr} {nms:List Str} {avs:List AV} {rest:List Stmt} {K:Frag} {pos:Pos}
theorem Tr.lambda {params:Arguments} {body:PySem.Expr} {scope:Scope} {c P:Addr} {clos:List (Str×Addr)} {Q:Value→Heap→Prop} (O:EnvOk env L nms) (hcode:env.code = .ref c) (N:NestB B c P) (S:St B ms h) {j:Nat} {Tq:OP} (hj:ms[j]?=some (P,Tq)) (hTq:∀o,Tq o→TabAt pos o)
  (hcl:closureFor scope env=Pure.pure clos) (hdef:defaultsOf params env=([],[]))
  (k:∀f B' c' ctv pm h2,B.le B'→B' f=some (kla_obj "<lambda>" (env.qual++ "<lambda>") params body scope clos pm c' ctv)→CodeB B' (.ref c') (env.qual++ "<lambda>")→
   St B' (ms.set j (P,fun o=>∃ps c',Tq (tabObj ps)∧o=tabObj (ps++ #[rawInt pos.line,rawInt pos.col,.ref c']))) h2→Q (.ref f) h2):
  Tr prog w A (eval (.Lambda params body scope pos) env) h Q X:=by
 intro g d tk os Q' E hg hq he
 obtain⟨oP,hP,hTo⟩:=S.mem hj
 obtain⟨ps,rfl,ht,hnf⟩:=hTq _ hTo
 obtain⟨mg,hmain⟩:=N.main
 obtain⟨hgs,hb⟩:=hmain h S.keep
 have hgP:mainGlobals≠P:=fun q=>by
  obtain⟨o,es,ep,e,hd,_⟩:=hgs
  rw [q,hP] at e;obtain rfl:=Option.some.inj e;contradiction
 refine kla_eval hdef (kla_makeFunction (s:=⟨h,g,d,tk,os⟩) (mg:=mg) hcl O.glob hgs hcode (N.code h S.keep) hP ht hnf hgP hb fun c' ctv h' tk' hx' hge hlt hrec htb=>?_)
 obtain⟨c₂,oc,vs,t,e2,hoc,hd,hv⟩:=hrec
 obtain rfl:=Value.ref.inj e2
 have S1:St B (ms.set j (P,fun o=>∃ps c',Tq (tabObj ps)∧o=tabObj (ps++ #[rawInt pos.line,rawInt pos.col,.ref c']))) h':=S.updE hj (fun b o hb e=>hx' b o hb e) htb ⟨ps,c',hTo,rfl⟩
 have cnone:h.get? c'=none:=by
  cases q:h.get? c' with
  | none=>rfl
  | some o=>exact absurd (Heap.lt_size q) (Nat.not_lt.mpr hge)
 have S2:=S1.addB (a:=c') (o:=oc) (fun hm=>by
  have e1:(ms.set j (P,fun o=>∃ps c',Tq (tabObj ps)∧o=tabObj (ps++ #[rawInt pos.line,rawInt pos.col,.ref c']))).map (·.1)=ms.map (·.1):=St.map_set ms j P _ _ hj
  rw [e1] at hm
  exact S.notMs_of_none cnone hm) hoc
 have hle1:B.le (B.put c' oc):=PM.le_put (S.notB_of_none cnone)
 have S3:=S2.pushB (o:=kla_obj "<lambda>" (env.qual++ "<lambda>") params body scope clos ((mg "__name__").getD .none) c' ctv)
 have hle2:=PM.le_put (o:=kla_obj "<lambda>" (env.qual++ "<lambda>") params body scope clos ((mg "__name__").getD .none) c' ctv) (S2.notB_of_none (St.push_none h'))
 exact hq _ _ _ _ hg (k _ _ c' ctv _ _ (PM.le_trans hle1 hle2) PM.put_self ⟨c',oc,vs,t,rfl,hle2 _ _ PM.put_self,hd,hv⟩ S3)
theorem lam_ok {f c' n L:Addr} {q:Str} {pm ctv:Value} {p1 p2 q1 q2 q3:Pos} {hf:Nat→Nat} (ho:B f=some (kla_obj "<lambda>" q (lamP p1 p2) (lamB q1 q2 q3) lamS [("guess",L+1+6)] pm c' ctv)) (hcd:CodeB B (.ref c') q) (hl:NoLim B) (hn:n≤6) (G:GuessB B L n hf):HeurB prog w f n hf B:=by
 refine⟨⟨_,_,ho,rfl⟩,fun A B' ms h x tx v2 hle R hx S=>Tc.tr fun g dr tk os Q E hg hq he=>?_⟩
 obtain⟨cc,oc,vs,t,e1,e2,e3,e4⟩:=hcd.le hle
 obtain⟨oS,mc,hS,hSn,hSl⟩:=hl.le hle
 have hlim:h.NoLimit:=⟨mc,ns_iff.mpr ⟨oS,S.keep _ _ hS,hSn⟩,hSl⟩
 refine kla_callFunE (s:=⟨h,g,dr,tk,os⟩) (fd:=kla_fn "<lambda>" q (lamP p1 p2) (lamB q1 q2 q3) lamS [("guess",L+1+6)] pm (.ref c') ctv) (by have:=R.dp;exact nt123 this) (S.keep _ _ (hle _ _ ho)) rfl rfl rfl rfl ⟨cc,oc,vs,t,e1,S.keep _ _ e2,e3,e4⟩ ?_
 refine wpAny_eq (t':=Pure.pure [("v",.int (x:Nat) tx),("w",v2)]) (by with_unfolding_all rfl) (wpAny_pure ?_)
 refine wpAny_newFunctionEnv (show ∀x∈lamS.names,x.2≠NameKind.cell by decide) (fun y hy=>?_) (fun h₀ hns₀ hsb₀=>⟨hlim.fresh _ hsb₀,kla_codeExpr ?_⟩) rfl
 ·rcases List.mem_cons.mp hy with rfl | hy
  ·rfl
  ·rw [List.mem_singleton.mp hy];rfl
 have hk₁:∀b o,h.get? b=some o→h₀.get? b=some o:=fun b o e=>hsb₀.extBut b o (Nat.ne_of_lt (Heap.lt_size e)) (Heap.get?_push_of_some _ e)
 obtain⟨oL,hoL,hno⟩:=ns_iff.mp hns₀
 have S1:=S.newM (P:=FrameO ["v"] [.int (x:Nat)]) (St.push_none h) hk₁ hoL ⟨_,hno,.cons ⟨tx,rfl⟩ .nil⟩ S.size2
 obtain⟨gl,o,ys,hcell,hgl,⟨cl,nn,dd⟩,hI⟩:=(G.le hle).at_
 obtain⟨oc',hoc',hdc'⟩:=hcell
 obtain⟨tv,hv⟩:=hI.at hx
 have O:EnvOk (callEnv (kla_fn "<lambda>" q (lamP p1 p2) (lamB q1 q2 q3) lamS [("guess",L+1+6)] pm (.ref c') ctv) h.objs.size f) h.objs.size ["v"]:=⟨rfl,rfl,(show(((["v"]:List Str).all fun x=>decide (lamS.names.lookup x=some .local))=true) by decide),rfl,rfl⟩
 refine(Ev.subL (xs:=ys.toArray) (k:=x) (c:= .int (hf x:Nat)) (v:= .int (hf x:Nat) tv) (.free rfl (by rfl) rfl ⟨_,S1.keep _ _ hoc',hdc'⟩) (Ev.name O S1 0 rfl rfl) ⟨o,S1.keep _ _ hgl,cl,nn,dd⟩ (by rw [List.getElem?_toArray];exact hv) ⟨tv,rfl⟩ (Nat.lt_of_lt_of_le hx (Nat.le_trans hn (by decide)))) g dr _ os _ _ fun v tk' hv'=>?_
 exact hq v _ g tk' hg ⟨hv',S1.drop0⟩
end
end
section
set_option tactic.hygienic false
open PySem PySem.W PyProof.Rows
variable [GenI]
inductive WayB (B:PM) (W:WRel) (s t la d:Nat):Prop
 | mk (oL ys p) (f1:B la=some oL) (f2:LiO ys oL) (f3:Ints ys p) (f4:Way W s p t d) (f5:(∀δ,Walk W s t δ→d≤δ)) (f6:p.length≤50):WayB B W s t la d
theorem WayB.le {B B':PM} {W s t la d} (k:WayB B W s t la d) (h:B.le B'):WayB B' W s t la d:=let ⟨oL,ys,p,a,r1,r2,r3,r4,r5⟩:=k;⟨oL,ys,p,h _ _ a,r1,r2,r3,r4,r5⟩
section
variable {prog:Program} {w:World} {A:Around} {h:Heap} {X:Value→Heap→Prop} {P:Flow→Heap→Prop} {B:PM} {msr:List (Addr×OP)} {L:Addr} {rest:List Stmt} {K:Frag}
theorem law11 {dir bo:Bool} {n s jd D net dn:Nat} {E:EdR} {l:List (Str×Value)} {a5 a6 a7 a8 a9 a10 a11 a12 a13:AV} (Rm:Room A 16 160) (hfr:A.frames=some [eL L]) (F:LawF prog w K B) (hn:n≤6) (h2:2≤n) (hs:s<n) (G:GrB prog w B dir net dn n E l) (hjd:msr[jd]?=some (dn,InsD l))
  (S:St B ((L,FrameO nmLaw (avL D net bo s (n - 1) a5 a6 a7 a8 a9 a10 a11 a12 a13))::(192,Tab0)::msr) h)
  (k1:∀B' d la h',B.le B'→WayB B' (WE E) s (n - 1) la d→St B' ((L,FrameO nmLaw (avL D net bo s (n - 1) a5 a6 a7 a8 a9 (.int ((d:Nat):Int)) (.val (.ref la)) a12 a13))::(192,TabG)::msr) h'→Tr prog w A (execs rest (eL L)) h' P X)
  (k2:∀B' h',B.le B'→(∀δ,¬Walk (WE E) s (n - 1) δ)→St B' ((L,FrameO nmLaw (avL D net bo s (n - 1) a5 a6 a7 a8 a9 (.val .none) (.val .none) a12 a13))::(192,TabG)::msr) h'→Tr prog w A (execs rest (eL L)) h' P X):
  Tr prog w A (execs (lw 11::rest) (eL L)) h P X:=by
 obtain⟨T,oT,tw,nw,fBd,hT,hTd⟩:=F.fBd
 refine Cd.tryCatch (nms:=nmLaw) (C:=108) (x:= "NetworkXNoPath") okLaw hfr rfl ?_
 refine Cd.asgCall okLaw Rm.hh (by decide) (.callName (.g okLaw S F.gBd) (.evE (.name okLaw S 4 rfl rfl) fun v1 hv1=>.evE (.name okLaw S 2 rfl rfl) fun v2 hv2=>.evE (.name okLaw S 3 rfl rfl) fun v3 hv3=>.evE (.g okLaw S F.gLw) fun v4 hv4=>.evNil ⟨.ofFn S fBd,?_⟩))
 have e1:v1 = .ref net:=hv1
 have e4:v4 = .ref 966:=hv4
 obtain⟨t2,rfl⟩:=hv2
 obtain⟨t3,rfl⟩:=hv3
 subst e1 e4
 refine(bd_ok (A:=A) (lenv:=eL L) Rm hfr rfl rfl hn hs (nt89 hn h2) F.al.bd F.fBd F.bdCode F.al.exc G hjd S).mono (fun v h1 zq0=>?_) fun e h1 zq1=>?_
 ·obtain⟨B',hle,S1,T',oT',la,oL,ys,p,d,td,ev,hT',hTup,hla,hli,hI,hway,hbest,hplen⟩:=zq0
  subst ev
  refine⟨B',_,_,T',#[.int (d:Nat) td,.ref la],rfl,S1,isTuple_of (S1.keep _ _ hT') hTup,[(10,"length",.int (d:Nat) td,.int ((d:Nat):Int)),(11,"first",.ref la,.val (.ref la))],⟨[_,_],rfl,rfl⟩,rfl,fun p hp=>?_,fun h3 S3=>?_⟩
  ·rcases List.mem_cons.mp hp with rfl | hp
   ·exact⟨rfl,td,rfl⟩
   ·rw [List.mem_singleton.mp hp];exact⟨rfl,rfl⟩
  ·exact Cd.nil ⟨rfl,k1 B' d la h3 hle ⟨oL,ys,p,hla,hli,hI,hway,hbest,hplen⟩ S3⟩
 ·obtain⟨e',B',ee,hle,S1,hfly,hno⟩:=zq1
  refine⟨e',B',_,_,ee,S1,hfly,F.al.exc.le hle,fun h3 S3=>?_⟩
  exact Cd.asgTwo okLaw S3 10 11 rfl rfl .cNone fun h4 S4=>Cd.nil ⟨rfl,k2 B' h4 hle hno S4⟩
end
end
section
set_option tactic.hygienic false
open PySem PySem.W PyProof.Rows
variable [GenI]
noncomputable abbrev posL1:Pos:=⟨679,46,679,67⟩
noncomputable def TabL1:OP:=fun o=>∃ps c',Tab0 (tabObj ps)∧o=tabObj (ps++ #[rawInt posL1.line,rawInt posL1.col,.ref c'])
section
variable {prog:Program} {w:World} {A:Around} {h:Heap} {X:Value→Heap→Prop} {P:Flow→Heap→Prop} {B:PM} {msr tail:List (Addr×OP)} {L:Addr} {rest:List Stmt} {K:Frag}
theorem law12 {dir bo:Bool} {n s D net dn:Nat} {E:EdR} {hf:Nat→Nat} {l:List (Str×Value)} {a5 a6 a7 a8 a9 a10 a11 a12 a13:AV} (Rm:Room A 16 160) (hfr:A.frames=some [eL L]) (F:LawF prog w K B) (hn:n≤6) (h2:2≤n) (hs:s<n) (hw5:∀x y c,E x y=some (some c)→c≤5) (hirr:∀x c,E x x≠some (some c)) (adm:∀x c,Walk (WE E) x (n - 1) c→hf x≤c)
  (G:GrB prog w B dir net dn n E l) (GB:GuessB B L n hf)
  (S:St B ((L,FrameO nmLaw (avL D net bo s (n - 1) a5 a6 a7 a8 a9 a10 a11 a12 a13))::(968,Tab0)::(dn,InsD l)::tail) h)
  (k1:∀B' d la h',B.le B'→WayB B' (WE E) s (n - 1) la d→St B' ((L,FrameO nmLaw (avL D net bo s (n - 1) a5 a6 a7 a8 a9 a10 a11 (.val (.ref la)) a13))::(968,TabL1)::(dn,InsD l)::tail) h'→Tr prog w A (execs rest (eL L)) h' P X)
  (k2:∀B' h',B.le B'→(∀δ,¬Walk (WE E) s (n - 1) δ)→St B' ((L,FrameO nmLaw (avL D net bo s (n - 1) a5 a6 a7 a8 a9 a10 a11 (.val .none) a13))::(968,TabL1)::(dn,InsD l)::tail) h'→Tr prog w A (execs rest (eL L)) h' P X):
  Tr prog w A (execs (lw 12::rest) (eL L)) h P X:=by
 obtain⟨T,Dk,oT,v0,v1,nw,m,fAs,hT,hTd,hD,hm⟩:=id F.al.as
 refine Cd.tryCatch (nms:=nmLaw) (C:=108) (x:= "NetworkXNoPath") okLaw hfr rfl ?_
 refine Cd.assign okLaw 12 rfl (.callName (.g okLaw S F.al.gAs) (.evE (.name okLaw S 4 rfl rfl) fun v1 hv1=>.evE (.name okLaw S 2 rfl rfl) fun v2 hv2=>.evE (.name okLaw S 3 rfl rfl) fun v3 hv3=>.evCons (.lambda (P:=968) (clos:=[("guess",L+1+6)]) okLaw rfl F.nest S (j:=1) rfl (fun o=>.zero) (by with_unfolding_all rfl) (by rfl) fun f B1 c' ctv pm h1 hle1 hf1 hcd S1=>.evE (.g okLaw S1 (F.gLw.le hle1)) fun v4 hv4=>.evNil ⟨.ofFn S1 (fAs.le hle1),?_⟩)))
 have e1:v1 = .ref net:=hv1
 have e4:v4 = .ref 966:=hv4
 obtain⟨t2,rfl⟩:=hv2
 obtain⟨t3,rfl⟩:=hv3
 subst e1 e4
 have S1:St B1 ((L,FrameO nmLaw (avL D net bo s (n - 1) a5 a6 a7 a8 a9 a10 a11 a12 a13))::(968,TabL1)::(dn,InsD l)::tail) h1:=S1
 have F1:=F.le hle1
 have HB:HeurB prog w f n hf B1:=lam_ok hf1 hcd F1.al.bd.lim hn (GB.le hle1)
 refine(as_ok (A:=A) (lenv:=eL L) (jd:=1) Rm hfr rfl rfl hn hs (nt89 hn h2) hw5 hirr adm F1.al.bd HB F1.al.as F1.al.exc (.inl rfl) (G.le hle1) rfl S1).tr.mono (fun v h2 zq0=>?_) fun e h2 zq1=>?_
 ·obtain⟨B',hle,S2,la,oL,ys,p,d,ev,hla,hli,hI,hway,hbest,hplen⟩:=zq0
  subst ev
  exact⟨B',_,_,.val (.ref la),S2,rfl,fun h3 S3=>Cd.nil ⟨rfl,k1 B' d la h3 (PM.le_trans hle1 hle) ⟨oL,ys,p,hla,hli,hI,hway,hbest,hplen⟩ S3⟩⟩
 ·obtain⟨e',B',ee,hle,S2,hfly,hno⟩:=zq1
  refine⟨e',B',_,_,ee,S2,hfly,F1.al.exc.le hle,fun h3 S3=>?_⟩
  exact Cd.assignE okLaw S3 12 rfl .cNone fun h4 S4=>Cd.nil ⟨rfl,k2 B' h4 (PM.le_trans hle1 hle) hno S4⟩
end
end
section
set_option tactic.hygienic false
open PySem PySem.W PyProof.Rows
variable [GenI]
section
variable {prog:Program} {w:World} {A:Around} {env:Env} {h:Heap} {X:Value→Heap→Prop} {B:PM} {ms:List (Addr×OP)} {L:Addr} {nms:List Str} {avs:List AV} {rest:List Stmt} {K:Frag} {pos:Pos}
theorem Tr.orF {P:Bool→Heap→Prop} {x:PySem.Expr} {r:List PySem.Expr} (h1:Et prog w A env h x false) (k:Tr prog w A (allTrue .Or r env) h P X):Tr prog w A (allTrue .Or (x::r) env) h P X:=
 fun g d tk os Q E hg hq he=>wpAny_allTrue_Or_cons (h1 g d tk os _ E fun tk1=>k g d tk1 os Q E hg hq he)
theorem Tr.orLast {P:Bool→Heap→Prop} {x:PySem.Expr} (h1:Tr prog w A (isTrue x env (eval x env)) h P X):Tr prog w A (allTrue .Or [x] env) h P X:=
 fun g d tk os Q E hg hq he=>wpAny_allTrue_Or_cons (h1 g d tk os _ E hg (fun b h1 g1 tk1 hg1 p=>by
  cases b with
  | true=>exact hq _ _ _ _ hg1 p
  | false=>exact wpAny_allTrue_Or_nil (hq _ _ _ _ hg1 p)) he)
theorem Tr.testBool {P:Bool→Heap→Prop} {op:BoolOp} {vs:List PySem.Expr} {whole:Sem Value} (k:Tr prog w A (allTrue op vs env) h P X):Tr prog w A (isTrue (.BoolOp op vs pos) env whole) h P X:=
 fun g d tk os Q E hg hq he=>wpAny_isTrue_BoolOp (k g d tk os Q E hg hq he)
inductive CmpP (prog:Program) (w:World) (A:Around) (env:Env) (P:Bool→Heap→Prop) (r:PySem.Expr) (op:CmpOp) (b:AV) (va:Value) (h1:Heap):Prop
 | mk (a:AV) (c:Bool) (hv:AV.ok a va) (hr:Ev prog w A env h1 r b) (ho:Ec prog w A h1 op a b c) (p:P c h1)
theorem Tr.cmpL {P:Bool→Heap→Prop} {l r:PySem.Expr} {op:CmpOp} {b:AV} {whole:Sem Value} (h1:Tr prog w A (eval l env) h (CmpP prog w A env P r op b) X)
  (hm:behindInMarks op r=false:=by with_unfolding_all rfl):Tr prog w A (isTrue (.Compare l [op] [r] pos) env whole) h P X:=
 fun g d tk os Q E hg hq he=>wpAny_isTrue_Compare1 (h1 g d tk os _ E hg (fun va h1 g1 tk1 hg1 ⟨a,c,hva,hr,ho,p⟩=>hr g1 d tk1 os _ E fun vb tk2 hvb=>ho g1 d tk2 os _ E va vb hva hvb fun tk3=>wpAny_truthy_bool (hq _ _ _ _ hg1 p)) he) hm
noncomputable def CellAny:OP:=fun o=>∃v,o.data = .cell v
theorem CellAny.of {ov:Option AV} {o:Obj} (h:CellW ov o):CellAny o:=let ⟨v,e,_⟩:=h;⟨v,e⟩
theorem Tr.asgCellAny {x:Str} {px:Pos} {c:Addr} {v:Value} {j:Nat} {P:Unit→Heap→Prop} (hk:env.scope.kind = .function) (hl:env.kindOf x=some .cell) (hc:env.cells.lookup x=some c) (S:St B ms h) (hj:ms[j]?=some (c,CellAny))
  (k:∀h2,St B (ms.set j (c,CellW (some (.val v)))) h2→P () h2):Tr prog w A (PySem.assign (.Name x px) env v) h P X:=by
 intro g d tk os Q E hg hq he
 obtain⟨oc,hoc,v0,hd⟩:=S.mem hj
 refine wpAny_assign_Name (wpAny_storeName_cell (hk:=hk) hl hc ⟨oc,hoc,hd⟩ fun h' hcell hs=>?_)
 obtain⟨o',ho',hd'⟩:=hcell
 exact hq _ _ _ _ hg (k h' (S.upd hj hs ho' ⟨_,hd',rfl⟩))
theorem Turns.tuple {target:PySem.Expr} {l:Addr} {items:Array Value} {B:PM} {o:Obj} (hB:B l=some o) (hk:∀a o,B a=some o→h.get? a=some o) (hl:h.IsTuple l items) (h2:2<h.objs.size) (ht:∃x p,target = .Name x p):
  Turns prog w target (.ref l) items.size (fun i v _=>items[i]?=some v) B h:=by
 obtain⟨x,px,rfl⟩:=ht
 intro A g d tk os Q E hh hq
 have hne:l≠h.objs.size:=Nat.ne_of_lt (Heap.lt_size (hk _ _ hB))
 refine wpAny_pyIter_tuple hl ?_
 refine hq h.objs.size [h.objs.size,l] _ _ _ tk _ (KTurns.ofWalks (target:= .Name x px) (Walks.tuple (prog:=prog) (w:=w) hh h.objs.size l hne items) (fun i v s Q E _ q=>wpAny_pure q)) (fun b hb=>?_) ⟨⟨_,Heap.get?_push_size _ rfl,rfl,rfl⟩,hl.push _⟩ (fun i h' hs=>?_) (St.push_none h) (fun b o e=>Heap.get?_push_of_some _ e) (Heap.get?_push_size _ rfl) h2
 ·rcases List.mem_cons.mp hb with rfl | hb
  ·exact .inl rfl
  ·rw [List.mem_singleton.mp hb];exact .inr ⟨o,hB⟩
 ·obtain⟨⟨oi,e,_⟩,_⟩:=hs;exact⟨oi,e⟩
end
section
variable {prog:Program} {w:World} {A:Around} {h:Heap} {X:Value→Heap→Prop} {P:Flow→Heap→Prop} {B:PM} {tail:List (Addr×OP)} {L:Addr} {rest:List Stmt} {K:Frag}
theorem law13_no {D net s g n:Nat} {bo:Bool} {nd:Nat→Option Nat} {a5 a6 a7 a8 a9 a10 a13:AV} (hn:n≤6) (hs:s<n) (N:NeedB B L n nd) (hno:nd s=none)
  (S:St B ((L,FrameO nmLaw (avL D net bo s g a5 a6 a7 a8 a9 a10 (.val .none) (.val .none) a13))::tail) h) (hp:P (.ret (.bool true)) h):Tr prog w A (execs (lw 13::rest) (eL L)) h P X:=by
 have e1:(oV (nd s)).isNone=true:=by rw [hno];rfl
 have n1:∀{p q r:Pos},Ev prog w A (eL L) h (.Subscript (.Name "need" p) (.Name "start" q) r) (oV (nd s)):=fun {p q r}=>need_atB rfl (by rfl) rfl S N (.name okLaw S 2 rfl rfl) hs hn
 refine Cd.ifT (.bool (b:=true) (.or (b1:=true) (b2:=false) (.eq (.cmp n1 .cNone (.isNone oV_ne)) e1) fun hb=>by contradiction)) ?_
 refine Cd.retE (av:= .val (.bool true)) (.and (b1:=true) (b2:=true) (.bEq (.cmp n1 .cNone (.isNone oV_ne)) e1) fun _=>.and (b1:=true) (b2:=true) (.cmp (.name okLaw S 11 rfl rfl) .cNone .isNone) fun _=>.one (.cmp (.name okLaw S 12 rfl rfl) .cNone .isNone)) fun v hv=>?_
 have hv':v = .bool true:=hv
 subst hv'
 exact hp
theorem law13_yes {D net s g n la lb d:Nat} {bo:Bool} {nd:Nat→Option Nat} {a5 a6 a7 a8 a9 a10 a13:AV} (hn:n≤6) (hs:s<n) (N:NeedB B L n nd) (hd:nd s=some d)
  (S:St B ((L,FrameO nmLaw (avL D net bo s g a5 a6 a7 a8 a9 a10 (.val (.ref la)) (.val (.ref lb)) a13))::tail) h) (k:Tr prog w A (execs rest (eL L)) h P X):Tr prog w A (execs (lw 13::rest) (eL L)) h P X:=by
 have e1:(oV (nd s)).isNone=false:=by rw [hd];rfl
 have n1:∀{p q r:Pos},Ev prog w A (eL L) h (.Subscript (.Name "need" p) (.Name "start" q) r) (oV (nd s)):=fun {p q r}=>need_atB rfl (by rfl) rfl S N (.name okLaw S 2 rfl rfl) hs hn
 refine Cd.ifF (.bool (b:=false) (.or (b1:=false) (b2:=false) (.eq (.cmp n1 .cNone (.isNone oV_ne)) e1) fun _=>.or (b1:=false) (b2:=false) (.cmp (.name okLaw S 11 rfl rfl) .cNone .isNone) fun _=>.or (b1:=false) (b2:=false) (.cmp (.name okLaw S 12 rfl rfl) .cNone .isNone) fun _=>.orNil)) ?_
 exact k
end
end
section
set_option tactic.hygienic false
open PySem PySem.W PyProof.Rows
variable [GenI]
theorem Way.last {W:WRel} {x y d:Nat} {p:List Nat} (h:Way W x p y d):wayAt p (p.length - 1)=y:=by
 induction h with
 | one=>rfl
 | @cons x y z l c d e r ih=>
  have hl:1≤l.length:=by cases r <;> simp
  have e1:(x::l).length - 1=(l.length - 1)+1:=by rw [List.length_cons];exact nt41 hl
  rw [e1]
  exact ih
theorem preSum_congr {f g:Nat→Int}:∀{m:Nat},(∀i<m,f i=g i)→preSum f m=preSum g m
 | 0,_=>rfl
 | m+1,h=>by rw [preSum,preSum,preSum_congr fun i hi=>h i (Nat.lt_succ_of_lt hi),h m (Nat.lt_succ_self m)]
theorem IntsF.items {n:Nat} {f:Nat→Int} {ys:List Value} (H:IntsF n f ys):∃xs:Array (Int×Tok),intItems xs=ys.toArray∧xs.size=n∧∀i<n,numAt xs i=f i:=by
 induction n generalizing ys with
 | zero=>
  have:ys = []:=List.eq_nil_of_length_eq_zero H.1
  subst this
  exact⟨#[],by simp [intItems],rfl,fun i hi=>absurd hi (Nat.not_lt_zero i)⟩
 | succ n ih=>
  have hne:ys≠[]:=fun q=>by have:=H.1;rw [q] at this;contradiction
  have hsp:=List.dropLast_concat_getLast hne
  have H':IntsF n f ys.dropLast:=⟨by rw [List.length_dropLast,H.1];rfl,fun i v e=>by
   rw [List.getElem?_dropLast] at e
   split at e
   ·exact H.2 i v e
   ·contradiction⟩
  obtain⟨xs,h1,h2,h3⟩:=ih H'
  obtain⟨t,ht⟩:=H.2 n (ys.getLast hne) (by rw [List.getLast_eq_getElem,←List.getElem?_eq_getElem];congr 1;rw [H.1];rfl)
  refine⟨xs.push (f n,t),?_,by rw [Array.size_push,h2],fun i hi=>?_⟩
  ·have e1:intItems (xs.push (f n,t))=(intItems xs).push (.int (f n) t):=by simp [intItems]
   rw [e1,h1,←ht]
   apply Array.toList_inj.mp
   simpa using hsp
  ·unfold numAt
   by_cases q:i<n
   ·rw [Array.getElem?_push,if_neg (nt253 h2 q)]
    exact h3 i q
   ·have:i=n:=nt132 hi q
    subst this
    rw [Array.getElem?_push,if_pos h2.symm];rfl
noncomputable def inner14:List Stmt:=fnBody (lw 14)
section
variable {prog:Program} {w:World} {A:Around} {h:Heap} {X:Value→Heap→Prop} {P:Flow→Heap→Prop} {B:PM} {tail:List (Addr×OP)} {L:Addr} {rest:List Stmt} {K:Frag}
theorem law14_turn {D net s n la d:Nat} {bo:Bool} {E:EdR} {nd:Nat→Option Nat} {a5 a6 a7 a8 a9 a10 a11 a12 a13:AV} (hh:A.handled=none) (F:LawF prog w K B) (hn:n≤6) (h2:2≤n) (hs:s<n) (hrng:∀x y o,E x y=some o→x<n∧y<n) (N:NeedB B L n nd) (hd:nd s=some d) (T:TabT B L n E) (Wa:WayB B (WE E) s (n - 1) la d)
  (S:St B ((L,FrameO nmLaw (avL D net bo s (n - 1) a5 a6 a7 a8 a9 a10 a11 a12 a13))::(L+1+5,CellW (some (.val (.ref la))))::tail) h):
  Tr prog w A (execs inner14 (eL L)) h (fun fl h'=>fl = .next∧∃B' b13,B.le B'∧St B' ((L,FrameO nmLaw (avL D net bo s (n - 1) a5 a6 a7 a8 a9 a10 a11 a12 b13))::(L+1+5,CellW (some (.val (.ref la))))::tail) h') noX:=by
 obtain⟨oL,ys,p,hla,⟨nn,eL0⟩,hI,hway,hbest,hplen⟩:=Wa
 obtain⟨cw,w1,w2,w3,w4⟩:=hway.weights
 have hlast:=hway.last
 have hlen:ys.length=p.length:=hI.length
 have hli:∀{ms h},St B ms h→h.IsList la ys.toArray:=fun S=>⟨oL,S.keep _ _ hla,by rw [eL0],nn,by rw [eL0]⟩
 have hp100:p.length≤100:=nt165 hplen w3 hlen
 have hsz:ys.toArray.size=p.length:=by rw [List.size_toArray,hlen]
 have e1:((p.length - 1:Nat):Int)=(p.length:Nat) - 1:=nt265 hplen w3 hlen hsz
 refine Cd.assignComp (nms:=nmLaw) (avs:=avL D net bo s (n - 1) a5 a6 a7 a8 a9 a10 a11 a12 a13) (tail:=(L+1+5,CellW (some (.val (.ref la))))::tail) [("way",L+1+5),("table",L+1+3)] (p.length - 1) (fun i B' fr zs=>B'=B∧fr = []∧IntsF i (fun i=>((cw i:Nat):Int)) zs) hh (nt266 hplen w3 hlen hsz e1) okLaw 13 rfl (by with_unfolding_all rfl) (by with_unfolding_all rfl) ?_ ?_ ?_
 ·refine .rangeOf (n:=p.length - 1) okLaw S F.gRange (by rfl) (.eqI (.sub (.lenL okLaw S F.gLen (by rfl) (cell_at rfl (by rfl) rfl S (j:=1) rfl) (hli S) (nt267 hplen w3 hlen hsz e1)) .cInt) (by rw [hsz,e1])) fun a h1 t u v S1 hr _ _=>?_
  exact⟨B,[],a,t,u,v,rfl,hr,S1,rfl,rfl,rfl,fun i v e=>by simp at e⟩
 ·rintro i B' fr zs C I D' q h1 hi hy ⟨rfl,rfl,hZ⟩ S1 O1
  have S1:St B' ((C,FrameO ["k"] [.int i])::(I,q)::(D',lstO zs)::(L,FrameO nmLaw (avL D net bo s (n - 1) a5 a6 a7 a8 a9 a10 a11 a12 a13))::(L+1+5,CellW (some (.val (.ref la))))::tail) h1:=S1
  have hW:E (wayAt p i) (wayAt p (i+1))=some (some (cw i)):=w1 i (nt338 hlen hsz e1 hi hy)
  obtain⟨r1,r2⟩:=hrng _ _ _ hW
  have hT:∀{h'},St B' ((C,FrameO ["k"] [.int i])::(I,q)::(D',lstO zs)::(L,FrameO nmLaw (avL D net bo s (n - 1) a5 a6 a7 a8 a9 a10 a11 a12 a13))::(L+1+5,CellW (some (.val (.ref la))))::tail) h'→∀j,j<p.length→∃t,ys.toArray[j]?=some (.int (wayAt p j:Nat) t):=fun S j hj=>by
   have hlt:j<ys.length:=nt309 hlen hsz e1 hj
   obtain⟨t,e⟩:=hI.at (i:=j) (List.getElem?_eq_getElem hlt)
   exact⟨t,by rw [List.getElem?_toArray,List.getElem?_eq_getElem hlt,e]⟩
  obtain⟨t1,e2⟩:=hT S1 i (nt339 hlen hsz e1 hi hy)
  obtain⟨t2,e3⟩:=hT S1 (i+1) (nt338 hlen hsz e1 hi hy)
  refine .ofEv (av:=oV (E (wayAt p i) (wayAt p (i+1))).join) (tab_at rfl (by rfl) rfl S1 T (.subL (cell_at rfl (by rfl) rfl S1 (j:=4) rfl) (.name O1 S1 0 rfl rfl) (hli S1) e2 ⟨t1,rfl⟩ (by lia)) (.subL (k:=i+1) (cell_at rfl (by rfl) rfl S1 (j:=4) rfl) (.add (.name O1 S1 0 rfl rfl) .cInt) (hli S1) e3 ⟨t2,rfl⟩ (by lia)) r1 r2 hn) fun v hv=>⟨B',[],S1,rfl,rfl,hZ.push ?_⟩
  rw [hW] at hv
  exact hv
 ·rintro D' B' fr zs h1 hy ⟨rfl,rfl,hZ⟩ S1
  have S1:St B' ((L,FrameO nmLaw (avL D net bo s (n - 1) a5 a6 a7 a8 a9 a10 a11 a12 (.val (.ref D'))))::(D',lstO zs)::(L+1+5,CellW (some (.val (.ref la))))::tail) h1:=S1
  obtain⟨oD,hoD,eD⟩:=S1.mem (i:=1) rfl
  have eD':oD=LCg.lst zs:=eD
  subst eD'
  have hzl:h1.IsList D' zs.toArray:=⟨_,hoD,rfl,_,rfl⟩
  obtain⟨xs,x1,x2,x3⟩:=hZ.items
  have hsum:preSum (numAt xs) xs.size=((d:Nat):Int):=by
   rw [x2,←w2]
   exact preSum_congr x3
  have cw':∀{p},Ev prog w A (eL L) h1 (.Name "way" p) (.val (.ref la)):=fun {p}=>cell_at rfl (by rfl) rfl S1 (j:=2) rfl
  have lt1:p.length - 1<ys.length:=nt255 hlen hsz e1
  have at0:∃t,ys.toArray[0]?=some (.int ((s:Nat):Int) t):=by
   have hlt:0<ys.length:=nt342 hplen w3 hlen hsz e1 hy x2
   obtain⟨t,e⟩:=hI.at (i:=0) (List.getElem?_eq_getElem hlt)
   exact⟨t,by rw [List.getElem?_toArray,List.getElem?_eq_getElem hlt,e,w4]⟩
  have atL:∃t,ys.toArray[ys.toArray.size - 1]?=some (.int ((n - 1:Nat):Int) t):=by
   obtain⟨t,e⟩:=hI.at (i:=p.length - 1) (List.getElem?_eq_getElem lt1)
   exact⟨t,by rw [hsz,List.getElem?_toArray,List.getElem?_eq_getElem lt1,e,hlast]⟩
  obtain⟨t0,a0⟩:=at0
  obtain⟨tl,aL⟩:=atL
  have items:∀y∈zs.toArray,y=Value.none∨∃i t,y=Value.int i t:=fun y hy=>by
   have hy':y∈zs:=by simpa using hy
   obtain⟨i,hi,e⟩:=List.getElem_of_mem hy'
   obtain⟨t,e2⟩:=hZ.2 i y (by rw [List.getElem?_eq_getElem hi,e])
   exact .inr ⟨_,t,e2⟩
  have noNone:(zs.toArray.any (· == Value.none))=false:=by
   rw [Array.any_eq_false']
   intro y hy
   have hy':y∈zs:=by simpa using hy
   obtain⟨i,hi,e⟩:=List.getElem_of_mem hy'
   obtain⟨t,e2⟩:=hZ.2 i y (by rw [List.getElem?_eq_getElem hi,e])
   rw [e2]
   exact fun q=>by simp at q
  refine Cd.ifTr (b:=false) (.testBool (.orF (.eq (.cmp (.subL (k:=0) (v:= .int ((s:Nat):Int) t0) (c:= .int ((s:Nat):Int)) cw' .cInt (hli S1) a0 ⟨t0,rfl⟩ (by decide)) (.name okLaw S1 2 rfl rfl) .ne) (by simp)) (.orF (.eq (.cmp (.subNeg (k:=0) (v:= .int ((n - 1:Nat):Int) tl) (c:= .int ((n - 1:Nat):Int)) cw' (.neg .cInt) (hli S1) aL ⟨tl,rfl⟩) (.name okLaw S1 3 rfl rfl) .ne) (by simp)) (.orF (.eq (.cmp .cNone (.name okLaw S1 13 rfl rfl) (.noneIn hzl items)) noNone) (.orLast (.cmpL (b:= .int ((d:Nat):Int)) (.callName (.g okLaw S1 F.al.gSum) (.evE (.name okLaw S1 13 rfl rfl) fun v hv=>.evNil ⟨.builtin,?_⟩))))))))
  have hv':v = .ref D':=hv
  subst hv'
  refine .sumInts hh S1 (by rw [x1];exact hzl) fun h2 t S2=>⟨.int ((d:Nat):Int),(((d:Nat):Int) !=((d:Nat):Int)),⟨t,by rw [hsum]⟩,?_,.ne,?_⟩
  ·have eo:AV.int ((d:Nat):Int)=oV (nd s):=by rw [hd];rfl
   rw [eo]
   exact need_atB rfl (by rfl) rfl S2 N (.name okLaw S2 2 rfl rfl) hs hn
  ·rw [show(((d:Nat):Int) !=((d:Nat):Int))=false by simp]
   refine Cd.nil ⟨rfl,B',.val (.ref D'),PM.le_refl _,?_⟩
   exact S2.dropTo _ (.cons_cons _ (List.sublist_cons_self ..))
end
end
section
set_option tactic.hygienic false
open PySem PySem.W PyProof.Rows
variable [GenI]
section
variable {prog:Program} {w:World} {A:Around} {h:Heap} {X:Value→Heap→Prop} {P:Flow→Heap→Prop} {B:PM} {tail:List (Addr×OP)} {L:Addr} {rest:List Stmt} {K:Frag}
theorem law14 {D net s n la lb d:Nat} {bo:Bool} {E:EdR} {nd:Nat→Option Nat} {a5 a6 a7 a8 a9 a10 a13:AV} (hh:A.handled=none) (F:LawF prog w K B) (hn:n≤6) (h2:2≤n) (hs:s<n) (hrng:∀x y o,E x y=some o→x<n∧y<n) (N:NeedB B L n nd) (hd:nd s=some d) (T:TabT B L n E) (Wa:WayB B (WE E) s (n - 1) la d) (Wb:WayB B (WE E) s (n - 1) lb d)
  (S:St B ((L,FrameO nmLaw (avL D net bo s (n - 1) a5 a6 a7 a8 a9 a10 (.val (.ref la)) (.val (.ref lb)) a13))::(L+1+5,CellW none)::tail) h)
  (k:∀B' b13 h',B.le B'→St B' ((L,FrameO nmLaw (avL D net bo s (n - 1) a5 a6 a7 a8 a9 a10 (.val (.ref la)) (.val (.ref lb)) b13))::tail) h'→Tr prog w A (execs rest (eL L)) h' P X):
  Tr prog w A (execs (lw 14::rest) (eL L)) h P X:=by
 have hle0:B.le (B.put h.objs.size { cls:= .type "tuple",data:= .seq ([Value.ref la,.ref lb]:List Value).toArray}):=PM.le_put (S.notB_of_none (St.push_none h))
 refine Cd.for_ (L:=L) (nms:=nmLaw) (tail:=tail) hh 2 (fun i v _=>(#[Value.ref la,Value.ref lb]:Array Value)[i]?=some v) (fun i B' front avs=>(B.put h.objs.size { cls:= .type "tuple",data:= .seq ([Value.ref la,.ref lb]:List Value).toArray}).le B'∧front = [(L+1+5,CellAny)]∧∃b13,avs=avL D net bo s (n - 1) a5 a6 a7 a8 a9 a10 (.val (.ref la)) (.val (.ref lb)) b13) ?_ ?_ ?_
 ·refine .tupleD (.evE (.name okLaw S 11 rfl rfl) fun v1 hv1=>.evE (.name okLaw S 12 rfl rfl) fun v2 hv2=>.evNil ⟨few (by exact Nat.le_of_ble_eq_true rfl),?_⟩)
  have e1:v1 = .ref la:=hv1
  have e2:v2 = .ref lb:=hv2
  subst e1 e2
  have S1:=S.pushB (o:={ cls:= .type "tuple",data:= .seq ([Value.ref la,.ref lb]:List Value).toArray})
  have S2:St _ ((L,FrameO nmLaw (avL D net bo s (n - 1) a5 a6 a7 a8 a9 a10 (.val (.ref la)) (.val (.ref lb)) a13))::([(L+1+5,CellAny)]++tail)) _:=S1.weakAll rfl fun p hp=>by
   rcases List.mem_cons.mp hp with rfl | hp
   ·exact S1.own _ (.head _)
   ·rcases List.mem_cons.mp hp with rfl | hp
    ·obtain⟨o,ho,hc⟩:=S1.own _ (.tail _ (.head _))
     exact⟨o,ho,CellAny.of (ov:=none) hc⟩
    ·exact S1.own p (.tail _ (.tail _ hp))
  exact⟨_,_,_,S2,⟨PM.le_refl _,rfl,a13,rfl⟩,Turns.tuple (items:= #[Value.ref la,Value.ref lb]) PM.put_self S2.keep ⟨_,Heap.get?_push_size _ rfl,rfl,_,rfl⟩ S2.size2 ⟨_,_,rfl⟩,fun i B' fr av hJ=>hJ.1⟩
 ·rintro i v I q PP B1 front avs h1 hi hv ⟨hle1,rfl,b13,rfl⟩ S1
  have hle:B.le B1:=PM.le_trans hle0 hle1
  have hx:∃x,v = .ref x∧WayB B1 (WE E) s (n - 1) x d:=by
   have:i=0∨i=1:=nt62 hi
   rcases this with rfl | rfl
   ·have e:Value.ref la=v:=by simpa using hv
    exact⟨la,e.symm,Wa.le hle⟩
   ·have e:Value.ref lb=v:=by simpa using hv
    exact⟨lb,e.symm,Wb.le hle⟩
  obtain⟨x,rfl,Wx⟩:=hx
  refine .asgCellAny (c:=L+1+5) rfl (by rfl) rfl S1 (j:=1) rfl fun h2' S2=>?_
  have S2:St B1 ((L,FrameO nmLaw (avL D net bo s (n - 1) a5 a6 a7 a8 a9 a10 (.val (.ref la)) (.val (.ref lb)) b13))::(L+1+5,CellW (some (.val (.ref x))))::(I,q)::tail) h2':=S2
  refine(law14_turn hh (F.le hle) hn h2 hs hrng (N.le hle) hd (T.le hle) Wx S2).post fun fl h3 zq0=>?_
  obtain⟨ef,B3,c13,hle3,S3⟩:=zq0
  subst ef
  refine⟨B3,[(L+1+5,CellAny)],_,S3.weakAll rfl fun p hp=>?_,PM.le_trans hle1 hle3,rfl,c13,rfl⟩
  rcases List.mem_cons.mp hp with rfl | hp
  ·exact S3.own _ (.head _)
  ·rcases List.mem_cons.mp hp with rfl | hp
   ·obtain⟨o,ho,hc⟩:=S3.own _ (.tail _ (.head _))
    exact⟨o,ho,CellAny.of (ov:=some (.val (.ref x))) hc⟩
   ·exact S3.own p (.tail _ (.tail _ hp))
 ·rintro B1 front avs h1 ⟨hle,rfl,b13,rfl⟩ S1
  exact k B1 b13 h1 (PM.le_trans hle0 hle) (S1.dropTo _ (.cons_cons _ (List.sublist_cons_self ..)))
end
end
section
set_option tactic.hygienic false
open PySem PySem.W PyProof.Rows
variable [GenI]
section
variable {prog:Program} {w:World} {A:Around} {env:Env} {h:Heap} {X:Value→Heap→Prop} {B:PM} {ms:List (Addr×OP)} {L:Addr} {nms:List Str} {avs:List AV} {rest:List Stmt} {K:Frag} {pos:Pos}
theorem TrS.and2 {a b:PySem.Expr} {P:Value→Heap→Prop} (h1:Ev prog w A env h a (.val (.bool true))) (h2:TrS prog w A (eval b env) h P X):TrS prog w A (eval (.BoolOp .And [a,b] pos) env) h P X:=by
 intro g d tk os Q E hg hq he
 show wpS _ A (eval a env >>= fun v=>standAt pos >>= fun _=>holding [v] (truthy v) >>= fun t=>match BoolOp.And,t with
  | .And,false | .Or,true=>Pure.pure v
  | _,_=>eval b env) Q E _
 refine .bindA (h1 g d tk os _ E fun v tk' hv=>?_)
 have hv':v = .bool true:=hv
 subst hv'
 refine .bindA (wpAny_standAt (.bindA (wpAny_holding (wpAny_truthy_bool ?_))))
 exact h2 g d tk' os Q E hg hq he
inductive CmpS (prog:Program) (w:World) (A:Around) (env:Env) (P:Value→Heap→Prop) (r:PySem.Expr) (op:CmpOp) (b:AV) (va:Value) (h1:Heap):Prop
 | mk (a:AV) (c:Bool) (hv:AV.ok a va) (hr:Ev prog w A env h1 r b) (ho:Ec prog w A h1 op a b c) (p:P (.bool c) h1)
theorem TrS.cmpL {P:Value→Heap→Prop} {l r:PySem.Expr} {op:CmpOp} {b:AV} (h1:TrS prog w A (eval l env) h (CmpS prog w A env P r op b) X)
  (hm:behindInMarks op r=false:=by with_unfolding_all rfl):TrS prog w A (eval (.Compare l [op] [r] pos) env) h P X:=by
 intro g d tk os Q E hg hq he
 rw [eval_Compare1,markedBehindIn_of_false hm]
 refine .bind (h1 g d tk os _ E hg (fun va h1 g1 tk1 hg1 zq0=>?_) he)
 obtain⟨a,c,hva,hr,ho,p⟩:=zq0
 refine .of (wpAny_bind (wpAny_holding (hr g1 d tk1 os _ E fun vb tk2 hvb=>wpAny_bind (wpAny_standAt (wpAny_operating (ho g1 d tk2 os _ E va vb hva hvb fun tk3=>?_))))))
 exact hq _ _ _ _ hg1 p
end
section
variable {prog:Program} {w:World} {A:Around} {h:Heap} {X:Value→Heap→Prop} {P:Flow→Heap→Prop} {B:PM} {tail:List (Addr×OP)} {L:Addr} {rest:List Stmt} {K:Frag}
theorem law15 {dir bo:Bool} {D net s n dn d:Nat} {E:EdR} {nd:Nat→Option Nat} {hf:Nat→Nat} {l:List (Str×Value)} {a5 a6 a7 a8 a9 a11 a12 a13:AV} (Rm:Room A 20 180) (hfin:∀g:Array GenState,GenI.ok g→GenI.ok (g.push .finished)) (F:LawF prog w K B) (hn:n≤6) (h2:2≤n) (hs:s<n)
  (hw5:∀x y c,E x y=some (some c)→c≤5) (hirr:∀x c,E x x≠some (some c)) (hrng:∀x y o,E x y=some o→x<n∧y<n) (adm:∀x c,Walk (WE E) x (n - 1) c→hf x≤c)
  (N:NeedB B L n nd) (hd:nd s=some d) (hwalk:Walk (WE E) s (n - 1) d) (hleast:∀δ,Walk (WE E) s (n - 1) δ→d≤δ) (hd1000:d≤1000) (G:GrB prog w B dir net dn n E l) (GB:GuessB B L n hf) (hno:getA l "adj" =none) (hlen:l.length≤900)
  (S:St B ((L,FrameO nmLaw (avL D net bo s (n - 1) a5 a6 a7 a8 a9 (.int ((d:Nat):Int)) a11 a12 a13))::(210,Tab0)::(968,TabL1)::(dn,InsD l)::tail) h)
  (k:∀(B':PM) (q:OP) (h':Heap),B.le B'→St B' ((210,TabG)::(968,TabG)::(dn,q)::tail) h'→P (.ret (.bool true)) h'):
  TrS prog w A (execs (lw 15::rest) (eL L)) h P X:=by
 obtain⟨T,Dk,oT,v0,v1,nw,m,fAl,_⟩:=id F.al.al
 refine CdS.ret (.and2 ?_ (.cmpL (b:= .int ((d:Nat):Int)) (.callName (.g okLaw S F.gAl) (.evE (.name okLaw S 4 rfl rfl) fun v1 hv1=>.evE (.name okLaw S 2 rfl rfl) fun v2 hv2=>.evE (.name okLaw S 3 rfl rfl) fun v3 hv3=>.evCons (.of (.lambda (P:=968) (clos:=[("guess",L+1+6)]) okLaw rfl F.nest S (j:=2) rfl (fun o ho=>.next (p0:=posL1) (by decide) ho) (by with_unfolding_all rfl) (by rfl) fun f B1 c' ctv pm h1 hle1 hf1 hcd S1=>.evE (.g okLaw S1 (F.gLw.le hle1)) fun v4 hv4=>.evNil ⟨.ofFn S1 (fAl.le hle1),?_⟩))))))
 ·have eo:AV.int ((d:Nat):Int)=oV (nd s):=by rw [hd];rfl
  refine .bEq (.cmp (b:= .int ((d:Nat):Int)) (.name okLaw S 10 rfl rfl) ?_ .eq) (by simp)
  rw [eo]
  exact need_atB rfl (by rfl) rfl S N (.name okLaw S 2 rfl rfl) hs hn
 have e1:v1 = .ref net:=hv1
 have e4:v4 = .ref 966:=hv4
 obtain⟨t2,rfl⟩:=hv2
 obtain⟨t3,rfl⟩:=hv3
 subst e1 e4
 have F1:=F.le hle1
 have HB:HeurB prog w f n hf B1:=lam_ok hf1 hcd F1.al.bd.lim hn (GB.le hle1)
 have S2:St B1 ((L,FrameO nmLaw (avL D net bo s (n - 1) a5 a6 a7 a8 a9 (.int ((d:Nat):Int)) a11 a12 a13))::(210,Tab0)::(968,TabG)::(dn,InsD l)::tail) h1:=S1.weakAll rfl fun p hp=>by
  rcases List.mem_cons.mp hp with rfl | hp
  ·exact S1.own _ (.head _)
  ·rcases List.mem_cons.mp hp with rfl | hp
   ·exact S1.own _ (.tail _ (.head _))
   ·rcases List.mem_cons.mp hp with rfl | hp
    ·obtain⟨o,ho,ps,c2,_,e⟩:=S1.own _ (.tail _ (.tail _ (.head _)))
     exact⟨o,ho,_,e⟩
    ·exact S1.own p (.tail _ (.tail _ (.tail _ hp)))
 have S3:St B1 ((210,Tab0)::(L,FrameO nmLaw (avL D net bo s (n - 1) a5 a6 a7 a8 a9 (.int ((d:Nat):Int)) a11 a12 a13))::(968,TabG)::(dn,InsD l)::tail) h1:=S2.perm (List.Perm.swap ..)
 refine(al_ok (A:=A) (j:=2) Rm hfin hn hs (nt89 hn h2) hw5 hirr hrng adm F1.al HB (G.le hle1) rfl hno hlen S3 ⟨d,hwalk,hd1000⟩).tr.post fun v h3 zq0=>?_
 obtain⟨d',tv,B',r,ev,hw',hl',hle,⟨q,er⟩,S4⟩:=zq0
 subst ev er
 have S4:St B' ((210,TabG)::(L,FrameO nmLaw (avL D net bo s (n - 1) a5 a6 a7 a8 a9 (.int ((d:Nat):Int)) a11 a12 a13))::(968,TabG)::(dn,q)::tail) h3:=S4
 have S5:St B' ((L,FrameO nmLaw (avL D net bo s (n - 1) a5 a6 a7 a8 a9 (.int ((d:Nat):Int)) a11 a12 a13))::(210,TabG)::(968,TabG)::(dn,q)::tail) h3:=S4.perm (List.Perm.swap ..)
 have ed:d'=d:=Nat.le_antisymm (hl' _ hwalk) (hleast _ hw')
 subst ed
 refine⟨.int ((d':Nat):Int),(((d':Nat):Int) == ((d':Nat):Int)),⟨tv,rfl⟩,.name okLaw S5 10 rfl rfl,.eq,?_⟩
 rw [show(((d':Nat):Int) == ((d':Nat):Int))=true by simp]
 exact k B' q h3 (PM.le_trans hle1 hle) S5.drop0
end
end
section
set_option tactic.hygienic false
open PySem PySem.W PyProof.Rows
variable [GenI]
theorem WE_join (E:EdR):WE E=WT (joinE E):=by
 funext x y c
 apply propext
 show E x y=some (some c) ↔ (E x y).join=some c
 cases e:E x y with
 | none=>simp
 | some o=>simp
theorem perm5 {α:Type} {a b c d e:α} {t:List α}:(c::e::b::d::a::t).Perm (a::b::c::d::e::t):=by
 have h1:([2,4,1,3,0]:List Nat).Perm [0,1,2,3,4]:=by decide
 exact(h1.map fun i=>[a,b,c,d,e].getD i a).append_right t
section
variable {prog:Program} {w:World} {A:Around} {h:Heap} {X:Value→Heap→Prop} {P:Flow→Heap→Prop} {B:PM} {tail:List (Addr×OP)} {L:Addr} {rest:List Stmt} {K:Frag}
theorem freezeRows {n:Nat} {ra:Nat→Addr} {xs:Nat→Array Value} {E:EdR} (hn:n≤6) (TB:TableB B L n ra) (T:TabIs n E xs) (S:St B (rowsO ra xs n++tail) h):∃B',B.le B'∧TabT B' L n E∧St B' tail h:=by
 obtain⟨B',hle,S',hl⟩:=S.freezeList
 refine⟨B',hle,⟨ra,xs,TB.le hle,T,fun v hv=>?_⟩,S'⟩
 exact hl (ra v,ListO (xs v)) (List.mem_of_getElem? (rowsO_get hv))
theorem freezeNeed {n nl:Nat} {nd:Nat→Option Nat} {xs:Array Value} (hc:CellB B (L+1+4) (.ref nl)) (N:NeedIs n nd xs) (S:St B ((nl,ListO xs)::tail) h):∃B',B.le B'∧NeedB B' L n nd∧St B' tail h:=by
 obtain⟨o,ho,hl⟩:=S.mem (i:=0) rfl
 have hle:=PM.le_put (o:=o) (S.off _ (.head _))
 exact⟨_,hle,⟨nl,o,xs,hc.le hle,PM.put_self,hl,N⟩,S.freeze0 ho⟩
noncomputable def lawPost (B:PM) (ms0:List (Addr×OP)) (v:Value) (h':Heap):Prop:=v = .bool true∧∃B',B.le B'∧St B' ((192,TabG)::(210,TabG)::(968,TabG)::ms0) h'
theorem law_body {sl:Addr} {oS:Obj} {vs:Array Value} {sc:Nat→Int} {ms0:List (Addr×OP)} (Rm:Room A 20 180) (hfr:A.frames=some [eL L]) (hfin:∀g:Array GenState,GenI.ok g→GenI.ok (g.push .finished)) (F:LawF prog w K B) (hS:B sl=some oS) (eS:ListO vs oS) (hv:∀i v,vs[i]?=some v→∃t,v=Value.int (sc i) t) (hz:vs.size≤63)
  (S:St B ((L,FrameO nmLaw [.any,.any,.any,.any,.any,.any,.any,.any,.any,.any,.any,.any,.any,.any])::(L+1+0,CellW (some (.val (.ref sl))))::(L+1+1,CellW none)::(L+1+2,CellW none)::(L+1+3,CellW none)::(L+1+4,CellW none)::(L+1+5,CellW none)::(L+1+6,CellW none)::(192,Tab0)::(210,Tab0)::(968,Tab0)::ms0) h):
  TrS prog w A (execs (fnBody sLaw) (eL L)) h (fun f h'=>lawPost B ms0 (match f with | .ret v=>v | _=>.none) h') X:=by
 rw [lawBody,show [lw 0,lw 1,lw 2,lw 3,lw 4,lw 5,lw 6,lw 7,lw 8,lw 9,lw 10,lw 11,lw 12,lw 13,lw 14,lw 15] = [lw 0,lw 1,lw 2,lw 3,lw 4,lw 5,lw 6,lw 7,lw 8,lw 9,lw 10,lw 11,lw 12,lw 13,lw 14]++[lw 15] from rfl]
 refine CdS.pre ?_
 have hh:=Rm.hh
 refine law0 hh F.gLen F.gRange hS eS hv hz S fun B1 D oD ys h1 le1 hD eD hI S1=>?_
 have F1:=F.le le1
 generalize numOf vs.size sc=f at hI
 refine law1 hh hD eD hI rfl S1 fun B2 tm h2 le2 hm S2=>?_
 refine law2 hh (le2 _ _ hD) eD hI rfl hm S2 fun B3 td h3 le3 hdg S3=>?_
 have hm3:=hm.le le3
 have le03:=PM.le_trans le1 (PM.le_trans le2 le3)
 have F3:=F.le le03
 have N3:NumsB B3 D f:=⟨oD,ys,le3 _ _ (le2 _ _ hD),eD,hI⟩
 have hn6:=many_hi f
 have hn2:=many_lo f
 have hs:=start_lt f
 generalize hnn:manyOf f=n at *
 generalize startOf f=s at *
 generalize digitsOf f=dg at *
 generalize bothOf f=bo at *
 refine law3 (n:=n) (bo:=bo) (Rm.le (by decide) (by decide)) F3 rfl S3 fun net dn gd nd0 ad pd B4 h4 le4 zq0 S4=>?_
 obtain⟨ox,hox,hpl⟩:=zq0
 have F4:=F3.le le4
 refine law4 (avs:=avL D net bo s (n - 1) .any .any .any .any .any .any .any .any .any) (Rm.le (by decide) (by decide)) F4 hn6 rfl (hm3.le le4) hox hpl S4 fun B5 h5 r q le5 S5=>?_
 have F5:=F4.le le5
 have hm5:=(hm3.le le4).le le5
 refine law5 (j:=0) hh F5.gRange hn6 hm5 (S5.perm (List.perm_middle.trans (.cons _ List.perm_middle)).symm) fun B6 TD oT tys ra h6 le6 hcT hT eT hys S6=>?_
 have F6:=F5.le le6
 have hm6:=hm5.le le6
 have le36:=PM.le_trans le4 (PM.le_trans le5 le6)
 have TB6:TableB B6 L n ra:=⟨TD,oT,tys,hcT,hT,eT,hys⟩
 refine law6 (Rm.le (by decide) (by decide)) F6 rfl hn6 hm6 (N3.le le36) TB6 (le6 _ _ (le5 _ _ hox)) hpl (S6.perm List.perm_middle.symm) fun B7 E kv qv xs a5 a6 a7 a8 h7 le7 GR EI TI S7=>?_
 have F7:=F6.le le7
 obtain⟨B8,le8,TT8,S8⟩:=freezeRows hn6 (TB6.le le7) TI (S7.perm List.perm_middle)
 obtain⟨B9,le9,G9,S9⟩:=freezeGr (le8 _ _ (le7 _ _ (le6 _ _ (le5 _ _ hox)))) hpl (GR.le le8) EI.sym (S8.perm List.perm_middle)
 have le69:=PM.le_trans le7 (PM.le_trans le8 le9)
 have hm9:=hm6.le le69
 have F9:=F6.le le69
 generalize hl:instL (!bo) gd nd0 ad pd=l at G9 S9
 have hlno:getA l "adj" =none:=by rw [←hl];cases bo <;> rfl
 have hllen:l.length≤900:=by rw [←hl];cases bo <;> simp [instL]
 refine law7 hn6 hm9 (S9.perm (List.perm_middle (l₁:=[_,_,_,_]))) fun B10 nl h10 le10 hcn S10=>?_
 refine law8 hn6 hn2 hcn S10 fun nxs h11 NI S11=>?_
 have hrT:∀x y c,joinE E x y=some c→x<n∧y<n:=fun x y c e=>by
  have e':(E x y).join=some c:=e
  cases q:E x y with
  | none=>rw [q] at e';contradiction
  | some o=>exact EI.rng x y o q
 refine law9 hh (F9.le le10).gRange hn6 hn2 (hm9.le le10) hcn ((TT8.le le9).le le10) hrT NI .zero S11 fun nd nxs' b5 b6 b9 h12 NI' BI S12=>?_
 have hT5:∀x y c,joinE E x y=some c→c≤5:=fun x y c e=>by
  have e':(E x y).join=some c:=e
  cases q:E x y with
  | none=>rw [q] at e';contradiction
  | some o=>
   rw [q] at e'
   have:o=some c:=e'
   subst this
   exact EI.w5 x y c q
 have least:=BI.least hrT (nt160 hnn hn6 hn2) hT5 hn6
 obtain⟨B11,le11,NB,S13⟩:=freezeNeed hcn NI' (S12.perm (List.Perm.swap ..))
 have le3':B3.le B11:=PM.le_trans le36 (PM.le_trans le69 (PM.le_trans le10 le11))
 have F11:=F3.le le3'
 refine law10 hh F11.gRange hn6 (hm3.le le3') (hdg.le le3') NB (fun x d e=>((least x).1 d e).2.2) (S13.perm (.cons _ (List.Perm.swap ..))) fun B12 h14 le12 GB S14=>?_
 have F12:=F11.le le12
 have G12:=G9.le (PM.le_trans le10 (PM.le_trans le11 le12))
 have TT12:=TT8.le (PM.le_trans le9 (PM.le_trans le10 (PM.le_trans le11 le12)))
 have NB12:=NB.le le12
 have S14:=S14.perm (.cons _ (perm5 (a:=(L+1+5,CellW none)) (b:=(dn,InsD l)) (c:=(192,Tab0)) (d:=(210,Tab0)) (e:=(968,Tab0)) (t:=ms0)))
 have hw5:∀x y c,E x y=some (some c)→c≤5:=EI.w5
 have hirr:∀x c,E x x≠some (some c):=fun x c e=>by rw [EI.irr x] at e;contradiction
 have hwe:=WE_join E
 have adm:∀x c,Walk (WE E) x (n - 1) c→hfOf nd dg x≤c:=fun x c hw=>by
  rw [hwe] at hw
  cases e:nd x with
  | none=>exact absurd hw ((least x).2 e c)
  | some d=>exact Nat.le_trans (hf_le e) (((least x).1 d e).2.1 c hw)
 have B0:B.le B12:=PM.le_trans le03 (PM.le_trans le3' le12)
 have fin:∀{B':PM} {h':Heap} {q6 q9:OP},B.le B'→(∀o,q6 o→TabG o)→(∀o,q9 o→TabG o)→St B' ((192,TabG)::(210,q6)::(968,q9)::ms0) h'→∃B',B.le B'∧St B' ((192,TabG)::(210,TabG)::(968,TabG)::ms0) h':=fun {B' h' q6 q9} hle w6 w9 S=>⟨B',hle,S.weakAll rfl fun p hp=>by
  rcases List.mem_cons.mp hp with rfl | hp
  ·exact S.own _ (.head _)
  ·rcases List.mem_cons.mp hp with rfl | hp
   ·obtain⟨o,ho,e⟩:=S.own _ (.tail _ (.head _))
    exact⟨o,ho,w6 o e⟩
   ·rcases List.mem_cons.mp hp with rfl | hp
    ·obtain⟨o,ho,e⟩:=S.own _ (.tail _ (.tail _ (.head _)))
     exact⟨o,ho,w9 o e⟩
    ·exact S.own p (.tail _ (.tail _ (.tail _ hp)))⟩
 have noWay:∀{B':PM} {h':Heap} {c10 c13},B.le B'→NeedB B' L n nd→(∀δ,¬Walk (WE E) s (n - 1) δ)→
   St B' ((L,FrameO nmLaw (avL D net bo s (n - 1) b5 b6 a7 a8 b9 c10 (.val .none) (.val .none) c13))::(968,TabL1)::(dn,InsD l)::(210,Tab0)::(L+1+5,CellW none)::(192,TabG)::ms0) h'→
   Tr prog w A (execs [lw 13,lw 14] (eL L)) h' (fun f h'=>(f = .next∧TrS prog w A (execs [lw 15] (eL L)) h' (fun f h'=>lawPost B ms0 (match f with | .ret v=>v | _=>.none) h') X)∨(f≠ .next∧lawPost B ms0 (match f with | .ret v=>v | _=>.none) h')) X:=fun {B' h' c10 c13} hle NB' hno S'=>by
  have hnone:nd s=none:=by
   cases e:nd s with
   | none=>rfl
   | some d=>exact absurd (hwe▸((least s).1 d e).1) (hno d)
  refine law13_no hn6 hs NB' hnone S' (.inr ⟨nofun,rfl,?_⟩)
  refine fin hle (fun o ho=>⟨#[],ho⟩) (fun o ⟨ps,c',_,e⟩=>⟨_,e⟩) (q6:=Tab0) (q9:=TabL1) ?_
  have T1:=S'.drop0.dropTo ((968,TabL1)::(210,Tab0)::(192,TabG)::ms0) (.cons_cons _ (.cons _ (.cons_cons _ (.cons _ (List.Sublist.refl _)))))
  exact T1.perm ((List.perm_middle (l₁:=[(192,TabG),(210,Tab0)]) (a:=(968,TabL1)) (l₂:=ms0)).trans (.cons _ (List.Perm.swap ..)))
 refine law11 (msr:=(968,Tab0)::(dn,InsD l)::(210,Tab0)::(L+1+5,CellW none)::ms0) (jd:=1) (Rm.le (by decide) (by decide)) hfr F12 hn6 hn2 hs G12 rfl S14 (fun B13 d1 la h15 le13 Wa S15=>?_) fun B13 h15 le13 hno S15=>?_
 ·have hwalk1:Walk (WE E) s (n - 1) d1:=by obtain⟨_,_,_,_,_,_,hway,_⟩:=Wa;exact hway.walk
  have F13:=F12.le le13
  refine law12 (Rm.le (by decide) (by decide)) hfr F13 hn6 hn2 hs hw5 hirr adm (G12.le le13) (GB.le le13) (S15.perm (.cons _ (List.perm_middle (l₁:=[(968,Tab0),(dn,InsD l),(210,Tab0),(L+1+5,CellW none)])))) (fun B14 d2 lb h16 le14 Wb S16=>?_) fun B14 h16 le14 hno S16=>absurd hwalk1 (hno d1)
  have F14:=F13.le le14
  have le1314:=PM.le_trans le13 le14
  obtain⟨d,hd⟩:∃d,nd s=some d:=by
   cases e:nd s with
   | none=>exact absurd (hwe▸hwalk1) ((least s).2 e d1)
   | some d=>exact⟨d,rfl⟩
  obtain⟨l1,l2,l3⟩:=(least s).1 d hd
  rw [←hwe] at l1 l2
  have ed1:d1=d:=by
   obtain⟨_,_,_,_,_,_,hway,hb,_⟩:=Wa
   exact Nat.le_antisymm (hb d l1) (l2 d1 hway.walk)
  have ed2:d2=d:=by
   obtain⟨_,_,_,_,_,_,hway,hb,_⟩:=Wb
   exact Nat.le_antisymm (hb d l1) (l2 d2 hway.walk)
  subst ed1 ed2
  refine law13_yes hn6 hs (NB12.le le1314) hd S16 ?_
  refine law14 hh F14 hn6 hn2 hs EI.rng (NB12.le le1314) hd (TT12.le le1314) (Wa.le le14) Wb (S16.perm (.cons _ (List.perm_middle (l₁:=[(968,TabL1),(dn,InsD l),(210,Tab0)])).symm)) fun B15 c13 h17 le15 S17=>?_
  have le15':=PM.le_trans le1314 le15
  refine Cd.nil (.inl ⟨rfl,?_⟩)
  refine law15 (tail:=(192,TabG)::ms0) Rm hfin (F14.le le15) hn6 hn2 hs hw5 hirr EI.rng adm (NB12.le le15') hd l1 l2 (nt83 l3) (G12.le le15') (GB.le le15') hlno hllen (S17.perm (.cons _ (List.perm_middle (l₁:=[(968,TabL1),(dn,InsD l)])).symm)) fun B16 q h18 le16 S18=>⟨rfl,?_⟩
  refine fin (PM.le_trans B0 (PM.le_trans le15' le16)) (fun o ho=>ho) (fun o ho=>ho) (q6:=TabG) (q9:=TabG) ?_
  have T1:=S18.dropTo ((210,TabG)::(968,TabG)::(192,TabG)::ms0) (.cons_cons _ (.cons_cons _ (.cons _ (List.Sublist.refl _))))
  exact T1.perm (List.perm_middle (l₁:=[(210,TabG),(968,TabG)]) (a:=(192,TabG)) (l₂:=ms0)).symm
 ·have F13:=F12.le le13
  refine law12 (Rm.le (by decide) (by decide)) hfr F13 hn6 hn2 hs hw5 hirr adm (G12.le le13) (GB.le le13) (S15.perm (.cons _ (List.perm_middle (l₁:=[(968,Tab0),(dn,InsD l),(210,Tab0),(L+1+5,CellW none)])))) (fun B14 d2 lb h16 le14 Wb S16=>?_) fun B14 h16 le14 hno' S16=>noWay (PM.le_trans B0 (PM.le_trans le13 le14)) (NB12.le (PM.le_trans le13 le14)) hno S16
  obtain⟨_,_,_,_,_,_,hway,_⟩:=Wb
  exact absurd hway.walk (hno d2)
end
end
section
set_option tactic.hygienic false
open PySem PySem.W PyProof.Rows
variable [GenI]
section
variable {prog:Program} {w:World} {A:Around} {h:Heap} {X:Value→Heap→Prop} {B:PM} {K:Frag}
theorem law_ok {sl:Addr} {oS:Obj} {vs:Array Value} {sc:Nat→Int} {ms0:List (Addr×OP)} (Rm:Room A 21 190) (hfr:A.frames=some []) (hfin:∀g:Array GenState,GenI.ok g→GenI.ok (g.push .finished)) (fL:FnAt B 971 sLaw "law" .none .none) (F:LawF prog w K B) (hS:B sl=some oS) (eS:ListO vs oS) (hv:∀i v,vs[i]?=some v→∃t,v=Value.int (sc i) t) (hz:vs.size≤63)
  (S:St B ((192,Tab0)::(210,Tab0)::(968,Tab0)::ms0) h):TcS prog w A (.call (.ref 971) ⟨[.ref sl],[]⟩) h (lawPost B ms0) X:=by
 obtain⟨oF,fdF,hF1,hF2,hF3⟩:=F.code
 refine TcS.callFnCX (d:=20) (u:=187) (XB:=fun _ _=>noX) Rm fL F.al.bd.lim S (binds:=[("script",.ref sl)]) (fun x s' hs'=>.of_eq (by with_unfolding_all rfl))
  nmLaw [.any,.any,.any,.any,.any,.any,.any,.any,.any,.any,.any,.any,.any,.any] [("script",0,some (.val (.ref sl))),("many",1,none),("digits",2,none),("table",3,none),("need",4,none),("way",5,none),("guess",6,none)] (fun L x hx=>?_) ?_ (fun L c hc=>?_) (fun c hc=>?_) (by simp) ?_ (fun _ _ _ _ z=>z.elim)
 ·rw [List.mem_singleton.mp hx]
  exact .inr ⟨by rfl,rfl⟩
 ·exact .cons trivial (.cons trivial (.cons trivial (.cons trivial (.cons trivial (.cons trivial (.cons trivial (.cons trivial (.cons trivial (.cons trivial (.cons trivial (.cons trivial (.cons trivial (.cons trivial .nil)))))))))))))
 ·simp only [List.mem_cons,List.not_mem_nil,or_false] at hc
  rcases hc with rfl | rfl | rfl | rfl | rfl | rfl | rfl <;> rfl
 ·simp only [List.mem_cons,List.not_mem_nil,or_false] at hc
  rcases hc with rfl | rfl | rfl | rfl | rfl | rfl | rfl <;> rfl
 ·intro L h1 cd hcd R' S1
  obtain⟨oc,fdc,hc1,hc2,hc3⟩:=hcd
  rw [hF1] at hc1;obtain rfl:=Option.some.inj hc1
  rw [hF2] at hc2;obtain rfl:=Data.func.inj hc2
  rw [hF3] at hc3
  subst hc3
  exact law_body (R'.le (by decide) (by decide)) (Around.frames_deeper hfr) hfin F hS eS hv hz S1
end
end
section
set_option tactic.hygienic false
open PySem PySem.Spec PySem.Calls PySem.W PyProof.Rows
theorem caller_clean:Clean (⟨.builtin "claim.caller" {},none,none,[],none⟩:PySem.Ctx):=⟨by decide,fun x hx=>by contradiction⟩
inductive DoneF (R:Result→Shared→Prop) (fin:Fin) (s:Shared):Prop
 | mk (f:Flow) (e:fin = .done f) (r:R (.ok f) s)
inductive EndP (c:ClaimW) (s:Shared) (args:List WData) (vs:List Value) (s₁:Shared) (kept:Heap→Prop) (r:Result) (s':Shared):Prop
 | mk (e:c.Ends s args vs s₁ r s') (os:s'.os=s.os) (b:AllBare s'.gens) (k:kept s'.heap)
theorem wp_of_wpS_done {M:Model} {A:Around} {Γ:PySem.Ctx} {t:Sem Fin} {R:Result→Shared→Prop} {s:Shared} (hin:Γ.In A) (hcl:Clean Γ)
  (h:wpS M A t (DoneF R) (fun e s'=>R (.error e) s') s) (p:Pos):
  Sem.wp M Γ t (Sem.finPost M Γ R) (fun e _ s'=>R (.error e) s') p s:=by
 refine Sem.wp_mono M Γ t (fun fin p' s' h'=>?_) (fun _ _ _ h'=>h') p s (h Γ p hin hcl)
 obtain⟨f,rfl,hf⟩:=h'
 exact hf
theorem thread_ends_bothS {prog:Program} {w:World} {t:Sem Fin} {s:Shared} {R:Result→Shared→Prop} (hreg:s.asleep)
  (h:wpS (model prog w) callerA t (DoneF fun r s'=>R r s'∧leftWithCleanup s'.gens=false) (fun e s'=>R (.error e) s'∧leftWithCleanup s'.gens=false) s):
  ∃n r s' s'',runN (denote table) prog w n s ⟨t,.builtin "claim.caller" {},default,[]⟩ = .halted (outcomeOf r) s'∧
   schedN (denote table) prog w n (.single s ⟨t,.builtin "claim.caller" {},default,[]⟩) = .halted (outcomeOf r) s'∧s'.forget=s''.forget∧R r s'':=by
 obtain⟨n,r,s₁,s₂,hs,hn,hfo,hR⟩:=wp_halts_full (M:=model prog w) (R:=R) hreg (wp_of_wpS_done (R:=fun r s'=>R r s'∧leftWithCleanup s'.gens=false) caller_in caller_clean h default)
 exact⟨n,r,s₂,s₁,hn,hs,hfo,hR⟩
theorem callFrom_of_specS {c:ClaimW} {tree:List Value→Sem Fin} {w:World} {s:Shared} {free:Addr→Prop} {gens:Prop} {kept:Heap→Prop} (hz:s.asleep) (hgens:s.gens = #[])
  (hspec:∀args,c.pre args=true→WData.layableAll args=true→
   ∀ord:List DictEntry→List DictEntry,(∀l,(ord l).Perm l)→
   ∃vs s₁,layAllW c.records (classAt s.heap) w.params ord args s=some (vs,s₁)∧
    wpS (model c.prog w) callerA (tree vs) (DoneF (EndP c s args vs s₁ kept)) (fun e=>EndP c s args vs s₁ kept (.error e)) s₁):
  c.CallFrom (fun vs=>⟨tree vs,.builtin "claim.caller" {},default,[]⟩) w free gens kept s:=by
 intro args hpre hlay ord hord
 obtain⟨vs,s₁,hlaid,hcode⟩:=hspec args hpre hlay ord hord
 have hal:=layAllW_rest _ _ _ hlaid
 obtain⟨k,r,s',s'',hrun,hsched,hfo,hcase,hos,hkp⟩:=thread_ends_bothS (prog:=c.prog) (w:=w) (t:=tree vs) (s:=s₁)
  (R:=fun r s'=>c.Ends s args vs s₁ r s'∧s'.os=s.os∧kept s'.heap)
  (Shared.asleep_of_life hal.2.2.2 hz)
  (wpS.mono hcode (by
   rintro fin s' ⟨f,e,h1,h2,h3,h4⟩
   exact⟨f,e,⟨h1,h2,h4⟩,leftWithCleanup_false_of_bare h3⟩) (by
   rintro e s' ⟨h1,h2,h3,h4⟩
   exact⟨⟨h1,h2,h4⟩,leftWithCleanup_false_of_bare h3⟩))
 obtain⟨eh,_,_,eo,_⟩:=Shared.forget_eq hfo
 have hcase:=hcase.congr eh
 have hkp:kept s'.heap:=by first | exact eh▸hkp | (rw [eh] at hkp;exact hkp) | (rw [←eh] at hkp;exact hkp)
 rw [←eo] at hos
 have hlife:s'.heap.life=s.heap.life:=(runN_life _ _ _ hrun).trans hal.2.2.2
 refine⟨vs,s₁,hlaid,k,_,s',hsched,?_,(fun _ i x hx=>by rw [hgens] at hx;simp at hx),hkp,by rw [hlife],Shared.rest_eq hos⟩
 rcases hcase with⟨v,rfl,d1,d2,d3,d4,d5⟩ | ⟨e,ob,cls,rfl,d1,d2,d3,d4,d5⟩
 ·exact .inl ⟨v,rfl,d1,d2,d3,fun b o y _=>d4 b o y,d5⟩
 ·exact .inr ⟨e,ob,cls,rfl,d1,d2,d3,d4,fun b o y _=>d5 b o y⟩
theorem open_anyS {r:RowW} {run:Value→List Value→Sem Value} {tree:List Value→Sem Fin} {q:Program} {loose defs kps:List Str} {writes:Bool} {Xt:Shared→Bool} {XP:(Str→Option Value)→Heap→Prop} {α:Type} {Yf:Shared→α} {Ya:World→α} {YP:World→Heap→Prop} {N:Nat}
  (left:LeftO r.prog q loose Xt Yf Ya N) (hY:∀w s,Yf s=Ya w→YP w s.heap) (hYk:∀w h h',YP w h→(∀b o,h.get? b=some o→h'.get? b=some o)→YP w h') (hX:∀s,Xt s=true→XP (s.heap.nsMap mainGlobals) s.heap) (hXk:∀mg h h',XP mg h→(∀b o,h.get? b=some o→h'.get? b=some o)→XP mg h')
  (hRf:∀s,Xt s=true→RecFacts r.records s.heap) (hwr:(!writes || r.records.isEmpty)=true) (ok:(chainsOk q && opensWell r.prog && (frees r && r.within.isEmpty))=true) (hb:r.prog.bare) (hw:r.promised)
  (ht:∀vs (w:World) (s:Shared) mg f (Q:Fin→Shared→Prop) (E:Value→Shared→Prop),s.heap.Ns mainGlobals mg→mg r.name=some f→wpS (model r.prog w) callerA (run f vs) (fun v s'=>Q (.done (.ret v)) s') E s→wpS (model r.prog w) callerA (tree vs) Q E s)
  (pin:∀w s,s.heap.isNs mainGlobals=true→Ground q loose [] XP w s (s.heap.nsMap mainGlobals) (s.heap.nsMap builtinsNs) s.heap→∀n∈defs,isTheDefsW r.prog s.heap n)
  (call:∀(w:World) (s₀ s₁:Shared) (mg mb:Str→Option Value),Ground q loose r.records XP w s₀ mg mb s₁.heap→YP w s₁.heap→∀(args:List WData) (vs:List Value) (as:List Addr),
   r.claim.pre args=true→WData.layableAll args=true→Laid r.records w s₀ s₁ args vs as→sysModules<s₀.heap.objs.size→∃f,mg r.name=some f∧
    wpS (model r.prog w) callerA (run f vs) (fun v s'=>GoodWG r.claim (classAt s₀.heap) (ExcName.means s₀.heap) args s₁ (.ok (.ret v)) s')
     (fun e s'=>GoodWG r.claim (classAt s₀.heap) (ExcName.means s₀.heap) args s₁ (.error e) s') s₁):r.claim.HoldsOpenBy (fun vs=>⟨tree vs,.builtin "claim.caller" {},default,[]⟩) defs kps writes:=by
 obtain⟨ok,k5⟩:=Bool.and_eq_true_iff.mp ok
 obtain⟨hch,o1⟩:=Bool.and_eq_true_iff.mp ok
 obtain⟨k5,k6⟩:=Bool.and_eq_true_iff.mp k5
 obtain⟨hsame,hu,ha,hap,hm⟩:=frees_parts k5
 refine⟨⟨hb,o1,by show r.makers.map _ = [];rw [hm];rfl⟩,hw.witness,fun w=>⟨(left.behind hX hch w).1,fun s' hs'=>?_⟩⟩
 obtain⟨s₀,hf,hg0,s,hT,hz,hgens,hg,G00,y⟩:=(left.behind (XP:=fun mg h=>XP mg h∧RecFacts r.records h) (fun s hs=>⟨hX s hs,hRf s hs⟩) hch w).2 s' hs'
 have G0:Ground q loose [] XP w s (s.heap.nsMap mainGlobals) (s.heap.nsMap builtinsNs) s.heap:=⟨G00.T,G00.B,G00.D,G00.TE,G00.TD,G00.W,G00.X.1,G00.cls,G00.has,G00.apart,G00.once,G00.K⟩
 have RF:=G00.X.2
 have hT':=hT
 refine⟨s₀,hf,hg0,s,hT,pin w s hg G0,RF.1,RF.2.1,?_⟩
 have hgens:s.gens = #[]:=Array.eq_empty_of_size_eq_zero (beq_iff_eq.mp hgens)
 have G:Ground q loose r.records XP w s _ _ s.heap:=RF.ground G0
 refine callFrom_of_specS (c:=r.claim) hz hgens fun args hpre hlay ord hord=>?_
 obtain⟨⟨vs,s₁⟩,hlaid⟩:=Option.isSome_iff_exists.mp (layAllW_isSome (P:=w.params) (ord:=ord) G.has args r.args s (pre_splitW hpre).1)
 have keeps:=layAllW_keeps _ _ _ hlaid
 have hal:=layAllW_rest _ _ _ hlaid
 obtain⟨as,hrd,hin,hold⟩:=reads_layAllW hord _ _ _ hlaid hlay s₁.heap (fun _ _ e=>e)
 have L:Laid r.records w s s₁ args vs as:=⟨⟨ord,hord,hlaid⟩,hrd,hin,hold,keeps,hal.1.trans hgens,hal.2.2.1⟩
 have G₁:=G.keeps hXk keeps
 obtain⟨f,hf,h⟩:=call w s s₁ _ _ G₁ (hYk _ _ _ (hY w s y) keeps) args vs as hpre hlay L G.low
 have hi:=ident_freeW hu ha hap
 have hwi:r.claim.within = []:=List.isEmpty_iff.mp k6
 exact⟨vs,s₁,hlaid,ht vs w s₁ _ f _ _ G₁.T.g hf (wpS.mono h (fun v s' g=>⟨_,rfl,have z:=g.laid (c:=r.claim) hsame hwi hi L;⟨z.1,z.2.1,z.2.2,fun q=>⟨namesKept_of hT' hg kps keeps g.2.1.old,noTable hwr q⟩⟩⟩) fun e s' g=>have z:=g.laid (c:=r.claim) hsame hwi hi L;⟨z.1,z.2.1,z.2.2,fun q=>⟨namesKept_of hT' hg kps keeps g.2.1.old,noTable hwr q⟩⟩)⟩
noncomputable abbrev WalkS (q:Program) (loose:List Str) (XP:(Str→Option Value)→Heap→Prop) (YP:World→Heap→Prop) (r:RowW) (d:DefRec) (kwd:List (Str×PySem.Expr)) (run:Value→List Value→Sem Value):Prop:=
 ∀(w:World) (s₀ s₁:Shared) (mg mb:Str→Option Value),Ground q loose r.records XP w s₀ mg mb s₁.heap→YP w s₁.heap→∀(a:Addr) (o:Obj) (pm cd doc dV kV:Value),s₁.heap.get? a=some o→
  o.data = .func { docDef d.name d.params d.body d.scope pm cd doc with defaults:=dV,kwdefaults:=kV}→s₁.heap.CodeRec cd d.name→Dflts mg s₁.heap d.params kwd dV kV→mg d.name=some (.ref a)→s₁.gens = #[]→
  ∀(args:List WData) (vals:List Value) (as:List Addr),r.claim.pre args=true→WData.layableAll args=true→ReadsAllW r.records (classAt s₀.heap) s₁.heap vals args as→WellAll w.params s₁.heap vals args→(∀a∈as,(a == sysModules)=false)→
   wpS (model r.prog w) callerA (run (.ref a) vals) (fun v s'=>GoodWG r.claim (classAt s₀.heap) (ExcName.means s₀.heap) args s₁ (.ok (.ret v)) s')
    (fun e s'=>GoodWG r.claim (classAt s₀.heap) (ExcName.means s₀.heap) args s₁ (.error e) s') s₁
theorem holds_openS {r:OpenRow} {q:Program} {loose:List Str} {Xt:Shared→Bool} {XP:(Str→Option Value)→Heap→Prop} {α:Type} {Yf:Shared→α} {Ya:World→α} {YP:World→Heap→Prop} {d:DefRec} {kwd:List (Str×PySem.Expr)} {N:Nat}
  (left:LeftO r.prog q loose Xt Yf Ya N) (hY:∀w s,Yf s=Ya w→YP w s.heap) (hYk:∀w h h',YP w h→(∀b o,h.get? b=some o→h'.get? b=some o)→YP w h')
  (hX:∀s,Xt s=true→XP (s.heap.nsMap mainGlobals) s.heap) (hXk:∀mg h h',XP mg h→(∀b o,h.get? b=some o→h'.get? b=some o)→XP mg h')
  (hdef:defOf q r.name=some (d,kwd)) (hp:r.prog.theDef r.name=some (d.params,d.body,d.scope)) (hk:kwWritten? d.params.kwonlyargs d.params.kw_defaults=some kwd) (hRf:∀s,Xt s=true→RecFacts r.records s.heap) (hwr:(!r.writes || r.records.isEmpty)=true)
  (k1:r.wellSaid=true) (ok:(chainsOk q && opensWell r.prog && (frees r.toRowW && r.within.isEmpty))=true) (hb:r.prog.bare) (hw:r.toRowW.promised)
  (call:WalkS q loose XP YP r.toRowW d kwd fun f vs=>PySem.call f vs):r.Holds:=by
 refine⟨k1,hw,open_anyS (r:=r.toRowW) (run:=fun f vs=>PySem.call f vs) (tree:=fun vs=>do match ←nsGet mainNs r.name with
   | some f=>do ret (←PySem.call f vs)
   | none=>unsupported "claim.caller:no-such-global") left hY hYk hX hXk hRf hwr ok hb hw
  (fun vs w s mg f Q E hg hf h=>.bindA (wpAny_nsGet hg (by rw [hf];exact .bindS (wpS.mono h (fun _ _ x=>wpAny_pure x) fun _ _ x=>x))))
  (fun w s hg G n hn=>?_) fun w s₀ s₁ mg mb G Y args vs as hpre hlay L low=>?_⟩
 ·obtain rfl:n=r.name:=by split at hn <;> simp_all
  exact pinned_of_view hg G hdef hp hk
 ·obtain⟨a,o,pm,cd,doc,dV,kV,h1,h2,h3,h4,h5⟩:=G.fn hdef
  exact⟨.ref a,h1,call w s₀ s₁ mg mb G Y a o pm cd doc dV kV h2 h3 h4 h5 (defOf_name hdef▸h1) L.gens args vs as hpre hlay L.reads L.well (L.low low)⟩
noncomputable def hookMore (K:Params→Frag) (as:List Addr) (e:∀P,as=(K P).map (·.1)) (ts:List Addr) (P:Addr):Hook:=kmHook K as e (P::ts)
end
section
set_option tactic.hygienic false
open PySem PySem.Spec PySem.Calls PySem.W PyProof.Rows
noncomputable def dP (dt:Data):Option FuncData×Option ClassData×List Value×List DictEntry×Nat:=match dt with
 | .func f=>(some f,none,[],[],0)
 | .cls c=>(none,some c,[],[],0)
 | .fields vs=>(none,none,vs.toList,[],0)
 | .seq vs n=>(none,none,vs.toList,[],n)
 | .dict es n=>(none,none,[],es.toList,n)
 | _=>(none,none,[],[],0)
noncomputable def vP (v:Value):Str×Tok×Addr:=match v with
 | .str s t=>(s,t,0)
 | .int _ t=>("",t,0)
 | .ref a=>("",0,a)
 | _=>("",0,0)
noncomputable def objAt (K:Frag) (a:Addr):Obj:=(K.lookup a).getD { cls:= .none,data:= .plain}
noncomputable def seqL (o:Obj):List Value:=(dP o.data).2.2.1
noncomputable def entL (o:Obj):List DictEntry:=(dP o.data).2.2.2.1
noncomputable def seqN (o:Obj):Nat:=(dP o.data).2.2.2.2
noncomputable def reObj (o:Obj) (dt:Data):Obj:=⟨o.cls,o.dict,dt,o.slots⟩
theorem objAt_of {K:Frag} {a:Addr} (e:(K.lookup a).isSome=true):K.lookup a=some (objAt K a):=by
 unfold objAt
 cases q:K.lookup a with
 | none=>rw [q] at e;contradiction
 | some o=>rfl
noncomputable def keyA (es:List DictEntry):List Value:=es.map fun e=>Value.str (vP e.key).1 (vP e.key).2.1
theorem keys_str {es:List DictEntry} (e:es.map (·.key)=keyA es):∀x∈es,∃s t,x.key = .str s t:=fun x hx=>by
 obtain⟨i,hi⟩:=List.mem_iff_getElem?.mp hx
 have:=congrArg (·[i]?) e
 rw [keyA,List.getElem?_map,List.getElem?_map,hi] at this
 exact⟨_,_,Option.some.inj this⟩
noncomputable def mIn (K:Frag) (N:Addr) (x:Str):Option Value:=nsFind (entL (objAt K N)).toArray x
inductive NsK (K:Frag) (N:Addr):Prop
 | mk (e1:K.lookup N=some (reObj (objAt K N) (.dict (entL (objAt K N)).toArray (seqN (objAt K N))))) (e2:(entL (objAt K N)).map (·.key)=keyA (entL (objAt K N)))
theorem nsO_of_K {K:Frag} {N:Addr} (e:NsK K N):∃o,K.lookup N=some o∧NsO (mIn K N) o:=by
 obtain⟨e1,e2⟩:=e
 exact⟨_,e1,_,_,rfl,fun x hx=>keys_str e2 x (List.mem_toArray.mp hx),fun _=>rfl⟩
section
variable {K:Frag} {B:PM}
theorem ns_kept {N:Addr} (hK:InK K B) (e:NsK K N):Kept B fun h=>h.Ns N (mIn K N):=fun h hk=>by
 obtain⟨o,ho,hn⟩:=nsO_of_K e
 exact ns_iff.mpr ⟨o,hk _ _ (hK _ _ ho),hn⟩
theorem GName.ofK {x:Str} {v:Value} (hK:InK K B) (e:NsK K mainGlobals) (q:mIn K mainGlobals x=some v):GName B x v:=by
 obtain⟨o,ho,hn⟩:=nsO_of_K e
 exact⟨o,_,hK _ _ ho,hn,.inl q⟩
inductive BiB (B:PM):Prop
 | mk (o mb) (f1:B builtinsNs=some o) (f2:NsO mb o) (f3:∀x:Str,x≠"__name__"→mb x=bootBuiltins x):BiB B
theorem GName.bi {x:Str} {v:Value} (hK:InK K B) (e:NsK K mainGlobals) (q:mIn K mainGlobals x=none) (hb:BiB B) (hv:bootBuiltins x=some v) (hx:x≠"__name__"):GName B x v:=by
 obtain⟨o,ho,hn⟩:=nsO_of_K e
 obtain⟨o',mb,h1,h2,h3⟩:=hb
 exact⟨o,_,hK _ _ ho,hn,.inr ⟨q,o',mb,h1,h2,(h3 x hx).trans hv⟩⟩
noncomputable def fdA (K:Frag) (a:Addr):Option FuncData:=(dP (objAt K a).data).1
noncomputable def fxOf (K:Frag) (a:Addr):FX:=(fdA K a).elim { doc:= .none,pm:= .none,an:=none,cdv:= .none,ct:= .none} fun fd=>{ doc:=fd.doc,pm:=fd.pyModule,an:=fd.annotations,cdv:=fd.code,ct:=fd.closureTuple}
noncomputable def cOf (K:Frag) (a:Addr):Addr:=(vP (fxOf K a).cdv).2.2
theorem FnAt.ofK {a:Addr} {s:Stmt} {qual:Str} {dV kV:Value} (hK:InK K B) (e1:K.lookup a=some (reObj (objAt K a) (.func (fdOf s qual dV kV (fxOf K a)))))
  (e2:K.lookup (cOf K a)=some (reObj (objAt K (cOf K a)) (.fields (seqL (objAt K (cOf K a))).toArray)))
  (e3:((fxOf K a).cdv,(seqL (objAt K (cOf K a))).toArray[1]?)=(Value.ref (cOf K a),some (Value.str qual (vP ((seqL (objAt K (cOf K a))).getD 1 .none)).2.1))):FnAt B a s qual dV kV:=
 ⟨_,_,_,_,hK _ _ e1,_,_,_,_,(Prod.mk.inj e3).1,hK _ _ e2,rfl,(Prod.mk.inj e3).2⟩
theorem code_ofK {a c:Addr} (hK:InK K B) (e1:(fdA K a).isSome=true) (e2:K.lookup a=some (reObj (objAt K a) (.func ((fdA K a).get e1)))) (e3:((fdA K a).get e1).code = .ref c):∃o fd,B a=some o∧o.data = .func fd∧fd.code = .ref c:=⟨_,_,hK _ _ e2,rfl,e3⟩
theorem NoLim.ofK (hK:InK K B) (e:NsK K cStatics) (q:mIn K cStatics "sys.recursionlimit" =none):NoLim B:=by
 obtain⟨o,ho,hn⟩:=nsO_of_K e
 exact⟨o,_,hK _ _ ho,hn,q⟩
theorem NoThr.ofK (hK:InK K B) (e:NsK K cStatics) (q:mIn K cStatics "_thread.count" =none):NoThr B:=by
 obtain⟨o,ho,hn⟩:=nsO_of_K e
 exact⟨o,_,hK _ _ ho,hn,q⟩
inductive BmB (B:PM) (K:Frag) (P:Addr):Prop
 | mk (bm ob) (f1:mIn K mainGlobals "__builtins__" =some (.ref bm)) (f2:bm≠builtinsNs) (f3:bm≠mainGlobals) (f4:bm≠P) (f5:B bm=some ob) (f6:ob.cls = .type "module") (f7:ob.dict=some builtinsNs) (f8:ob.data = .plain):BmB B K P
theorem NestB.ofK {c P:Addr} (hK:InK K B) (e:NsK K mainGlobals) (hb:BmB B K P) (q:codeHdIn K c P=true):NestB B c P where
 code h hk:=codeHd_of_K (K:=K) (fun a o e=>hk _ _ (hK _ _ e)) q
 main:=by
  obtain⟨bm,ob,h1,h2,h3,h4,h5,h6,h7,h8⟩:=hb
  exact⟨mIn K mainGlobals,fun h hk=>⟨ns_kept hK e h hk,bm,ob,h1,h2,h3,h4,hk _ _ h5,h6,h7,h8⟩⟩
noncomputable def clsAt (K:Frag) (C:Addr):ClassData:=(dP (objAt K C).data).2.1.getD default
noncomputable def slAt (K:Frag) (C:Addr) (i:Nat):Option Value:=((objAt K C).slots[i]?).getD none
theorem ExcB.ofK {x:Str} {C N:Addr} {bm:List Value} {nm q:Str} {bs:List Value} {hdct:Bool} {sn:List Str} {sub:List Value} {ab:Bool} {col:Option Bool} {dd:Option Addr} {k0 k1 k2 k3 k5:Option Value} (hK:InK K B) (e:NsK K mainGlobals) (e1:mIn K mainGlobals x=some (.ref C))
  (ho:K.lookup C=some (excClassObj nm q C N bs bm hdct sn sub ab col dd k0 k1 k2 k3 k5 "Exception.__new__")) (hok:NsK K N) (hni:mIn K N "__init__" =none) (ht:tailIn K [.type "Exception",.type "BaseException",.type "object"] bm=true):ExcB B x C:=
 ⟨mIn K mainGlobals,bm,N,nm,q,bs,hdct,sn,sub,ab,col,dd,k0,k1,k2,k3,k5,mIn K N,e1,hni,fun h hk=>⟨ns_kept hK e h hk,hk _ _ (hK _ _ ho),ns_kept hK hok h hk,tail_of_in (fun a o e=>hk _ _ (hK _ _ e)) ht⟩⟩
end
end
section
set_option tactic.hygienic false
open PySem PySem.Spec PySem.Calls PySem.W PyProof.Rows
noncomputable def tokOf (v:Value):Tok:=(vP v).2.1
noncomputable def refIn (x:Option (Option Value)):Addr:=(vP ((x.getD none).getD .none)).2.2
noncomputable def dAt (K:Frag) (a:Addr):Addr:=(vP ((fdA K a).elim .none (·.defaults))).2.2
noncomputable def kAt (K:Frag) (a:Addr):Addr:=(vP ((fdA K a).elim .none (·.kwdefaults))).2.2
noncomputable def entsOf (o:Obj):List (Str×Value):=(entL o).map fun e=>((vP e.key).1,e.val)
theorem ents_of {es:List DictEntry} (h:es.map (·.key)=keyA es):Ents es (es.map fun e=>((vP e.key).1,e.val)):=by
 induction es with
 | nil=>exact .nil
 | cons e es ih=>exact .cons ⟨_,(List.cons.inj h).1⟩ rfl (ih (List.cons.inj h).2)
theorem insW_of {o:Obj} (e1:o=reObj ⟨.type "dict",none,.plain,o.slots⟩ (.dict (entL o).toArray (seqN o))) (e2:(entL o).map (·.key)=keyA (entL o)):InsW (entsOf o) o:=
 ⟨_,_,_,e1,ents_of e2⟩
section
variable {K:Frag} {B:PM}
theorem OwnF.of {C:Addr} {name:Str} (e1:(findIn K (.ref C) name).any (noGet K)=true) (e2:takerIn K C name=some none) (e3:hasDictIn K C=true):OwnF K C name:=
 ⟨any_some e1,e2,e3⟩
noncomputable def recL (K:Frag) (p:Addr):List Value:=(recIn K p "getset_descriptor").getD []
theorem rcd_of {p C:Addr} (e:recIn K p "getset_descriptor" =some (.str "__dict__" (vP ((recL K p).getD 0 .none)).2.1::(recL K p).getD 1 .none:: .builtin "function.__dict__" ::(recL K p).drop 3)) (e2:Nat.ble ((recL K p).drop 3).length 1=true) (e3:mroIn K C ((recL K p).getD 1 .none)=some true):∃t owner r,recIn K p "getset_descriptor" =some (.str "__dict__" t::owner:: .builtin "function.__dict__" ::r)∧r.length≤1∧mroIn K C owner=some true:=
 ⟨_,_,_,e,Nat.le_of_ble_eq_true e2,e3⟩
end
end
section
set_option tactic.hygienic false
open PySem PySem.Spec PySem.Calls PySem.W PyProof.Rows
theorem reads_ints {R:WRecords} {cl:Str→Option Addr} {h:Heap} {vs:List Value} {xs:List WData} {as:List Addr} (r:ReadsAllW R cl h vs xs as) (hi:WShape.hasItems R xs .int=true):vs.length=xs.length∧∀(i:Nat) (v:Value),vs[i]?=some v→∃k t,v=Value.int k t:=by
 obtain⟨ns,rfl⟩:=items_int hi
 refine⟨r.length,fun i v e=>?_⟩
 obtain⟨v',as',e1,r1,_⟩:=r.at i (.int (ns.getD i 0)) (by
  have hl:=(List.getElem?_eq_some_iff.mp e).1
  rw [r.length,List.length_map] at hl
  rw [List.getElem?_map,List.getElem?_eq_getElem hl,List.getD_eq_getElem?_getD,List.getElem?_eq_getElem hl];rfl)
 obtain⟨t,e2,_⟩:=readsW_int_inv r1
 exact⟨_,t,(Option.some.inj (e.symm.trans e1)).trans e2⟩
theorem pre_len {R:WRecords} {xs:List WData} (h:(WTm.not (.lt (.lit (.int 63)) (.len (.arg 0)))).holds R { args:=[.list xs]} =true):xs.length≤63:=by
 have:=condW_of h (w_not (w_lt w_lit (w_len_list (w_arg rfl))))
 exact Nat.le_of_not_lt fun q=>of_decide_eq_false ((Bool.not_eq_true' _).mp this) (Int.ofNat_lt.mpr q)
theorem ns_uniq {h:Heap} {a:Addr} {m m':Str→Option Value} (x:h.Ns a m) (y:h.Ns a m'):m=m':=by
 obtain⟨o,es,ep,e,hd,_,hf⟩:=x
 obtain⟨o',es',ep',e',hd',_,hf'⟩:=y
 rw [e] at e';obtain rfl:=Option.some.inj e'
 rw [hd] at hd';obtain⟨rfl,rfl⟩:=Data.dict.inj hd'
 funext x
 rw [←hf,←hf']
theorem codeTable_of {K:Frag} {h:Heap} {c P:Addr} (X:K.In h) (q:codeHdIn K c P=true):isCodeTable h P:=by
 obtain⟨o,vs,_,_,_,_,_,_,_,e1,e2,e3,e4,_⟩:=codeHd_of_K X q
 exact⟨c,o,vs,e1,e2,e3,e4⟩
noncomputable def butT (h:Heap):PM:=fun a=>if a=192∨a=210∨a=968 then none else h.get? a
theorem butT_get {h:Heap} {a:Addr} (h1:a≠192) (h2:a≠210) (h3:a≠968):butT h a=h.get? a:=if_neg fun q=>by rcases q with q | q | q <;> contradiction
theorem butT_keep {h:Heap}:∀a o,butT h a=some o→h.get? a=some o:=fun a o e=>by
 unfold butT at e
 split at e
 ·contradiction
 ·exact e
end
section
set_option tactic.hygienic false
open PySem PySem.Spec PySem.Calls PySem.W PyProof.Rows
local macro_rules | `(tactic| o_head ($f:ident $K $as $e $ts)) => `(tactic| assumption)
theorem kd (h:PySem.Challenge.rw_bf0028_01.row.Holds):PySem.Challenge.rw_bf0028_01.row.Holds:=by
 k_head
end
section
set_option tactic.hygienic false
open PySem PySem.Spec PySem.Calls PySem.W PyProof.Rows
noncomputable abbrev pw:Program:=PySem.Challenge.pw_bf0028_01
noncomputable def kt (P:Params):X.KT:=X.KT.of (kd.heap_1 P)
noncomputable def spGet:List (Nat×Obj)→Nat→Option Obj
 | [],_=>none
 | p::l,a=>match Nat.beq p.1 a with
  | true=>some p.2
  | false=>spGet l a
noncomputable def lookO (P:Params) (sp:List (Nat×Obj)) (g:Nat→Obj) (a:Nat):Obj:=match spGet sp a with
 | some o=>o
 | none=>match(kt P).get a with
  | some o=>o
  | none=>g a
noncomputable def treeOf (f:Nat→Obj):Nat→Nat→Nat→Nat→BT
 | 0,_,_,_=>.nil
 | k+1,a,b,n=>match Nat.blt b n with
  | true=>.node (f b) (treeOf f k (a+a) (a+b) n) (treeOf f k (a+a) (a+a+b) n)
  | false=>.nil
noncomputable abbrev stT (P:Params) (sp:List (Nat×Obj)) (g:Nat→Obj) (n t:Nat) (os:OsState):SharedT:=⟨treeOf (lookO P sp g) 12 1 0 n,n,{},#[],{},t,os⟩
noncomputable def kO (P:Params) (a:Nat):Obj:=((kt P).get a).getD default
noncomputable def cutD (o:Obj) (m:Nat):Obj:=match o with
 | ⟨c,d,.dict es _,sl⟩=>⟨c,d,.dict (es.toList.take m).toArray m,sl⟩
 | o=>o
noncomputable def cutN (o:Obj) (m:Nat) (v:Value):Obj:=match o with
 | ⟨c,d,.dict es _,sl⟩=>⟨c,d,.dict (match es.toList.take m with | e::r=>{ e with val:=v}::r | []=>[]).toArray m,sl⟩
 | o=>o
noncomputable def o4:Obj:=⟨.type "module",some 0,.plain,#[]⟩
noncomputable def o41:Obj:=⟨.type "code",none,.fields #[.str "<module>" 317,.str "<module>" 318,.str "/claim/cut.py" 319,.int 1 0,.int 0 0,.int 0 0,.int 0 0,.int 0 0,.ref 39,.bool false,.int 316 0,.ref 40,.none,.none,.none,.none,.int 320 0,.int 1 0,.str "/claim/cut.py" 321],#[]⟩
noncomputable def l40:List (Int×Nat):=[(2,48),(6,55),(8,68),(10,80),(12,92),(14,104),(16,116),(19,128),(27,135),(30,142),(39,149),(67,196),(122,205),(170,214),(178,221),(198,278),(204,300),(219,307),(240,365),(276,414),(300,449),(327,503),(352,539),(391,583),(530,794),(648,965),(650,970)]
noncomputable def o40 (m:Nat):Obj:=⟨.none,none,.fields ((l40.take m).flatMap fun p=>[.int p.1 0,.int 0 0,.ref p.2]).toArray,#[]⟩
noncomputable def o1 (P:Params):Obj:=⟨.type "dict",none,.dict #[⟨PyData.keyHash P "builtins",.str "builtins" 162,.ref 4⟩,⟨PyData.keyHash P "__main__",.str "__main__" 163,.ref 5⟩,⟨PyData.keyHash P "_heapq",.str "_heapq" 285,.ref 13⟩] 3,#[]⟩
noncomputable abbrev spB (P:Params):List (Nat×Obj):=[(0,boot_o_0 P),(1,o1 P),(2,cutD (kO P 2) 10),(3,cutN (kO P 3) 11 (.str "__main__" 164)),(4,o4)]
noncomputable abbrev spA0 (P:Params):List (Nat×Obj):=(40,o40 0)::(41,o41)::spB P
noncomputable abbrev tbs:List (Nat×Obj):=[(192,tabObj #[]),(210,tabObj #[])]
noncomputable abbrev spA (P:Params):List (Nat×Obj):=tbs++[(0,boot_o_0 P),(1,o1 P),(3,cutN (kO P 3) 26 (.str "networkx.classes.coreviews" 609)),(4,o4),(40,o40 14),(41,o41)]
noncomputable abbrev spC (P:Params):List (Nat×Obj):=tbs++[(0,boot_o_0 P),(1,o1 P),(3,cutN (kO P 3) 34 (.str "networkx.classes.reportviews" 703)),(4,o4),(40,o40 22),(41,o41)]
noncomputable def cutC (o:Obj):Obj:=match o with
 | ⟨c,d,.cls k,sl⟩=>⟨c,d,.cls { k with subclasses:=[]},sl⟩
 | o=>o
noncomputable abbrev spD (P:Params):List (Nat×Obj):=tbs++[(0,boot_o_0 P),(1,o1 P),(3,cutN (kO P 3) 37 (.str "networkx.classes.graph" 1096)),(4,o4),(40,o40 24),(41,o41),(780,cutC (kO P 780))]
noncomputable abbrev spE (P:Params):List (Nat×Obj):=(968,tabObj #[])::tbs++[(0,boot_o_0 P),(1,o1 P),(4,o4),(40,o40 27),(41,o41)]
noncomputable abbrev bT:List Stmt:=behindTheImports pw
noncomputable abbrev eT:Env:={ scope:=pw.main.scope,locals:=mainNs,globals:=mainNs,cells:=[],code:= .ref 41,frame:=some 42}
noncomputable abbrev cT:Code:= .body bT eT
noncomputable abbrev p0:Pos:=⟨0,0,0,0⟩
noncomputable abbrev BB:List Frame:=[topFrame p0]
noncomputable abbrev an:Option Value:=some (.ref 6)
noncomputable abbrev tseg:=PySem.W.Fast.tw10110043849684766642
noncomputable abbrev ttab:=PySem.W.Fast.tw14364793385576792824
theorem seg_of {p:Program} {w:World} {n:Nat} {a:Option Value} {b N:Nat} {s:SharedT} {t:Thread} {r:Option (Flow×SharedT×Code×Pos)} (h:tseg ttab p w n a b N s t=r):segRunT treeTable p w n a b N s t=r:=by
 rw [PySem.W.Fast.te10110043849684766642,PySem.W.Fast.te14364793385576792824];exact h
noncomputable def gOf (r:Option (Flow×SharedT×Code×Pos)) (a:Nat):Obj:=match r with
 | some (_,s,_)=>(s.tree.get a).getD default
 | none=>default
noncomputable abbrev stA:List Stmt:=bT.take 21
noncomputable abbrev b1:List Stmt:=bT.drop 21
noncomputable abbrev stB:List Stmt:=b1.take 9
noncomputable abbrev b2:List Stmt:=b1.drop 9
noncomputable abbrev stC:List Stmt:=b2.take 5
noncomputable abbrev stD:List Stmt:=b2.drop 5
theorem pcA (w:World) (os:OsState) (g:Nat→Obj):∃g',segRunT treeTable pw w 39 an 1 2006 (stT w.params (spA0 w.params) g 43 322 os) (piecesOf stA eT cT p0 BB)=some (.next,stT w.params (spA w.params) g' 216 611 os,cT,⟨177,0,177,8⟩):=
 ⟨gOf (tseg ttab pw w 39 an 1 2006 (stT w.params (spA0 w.params) g 43 322 os) (piecesOf stA eT cT p0 BB)),seg_of (by kernel_rfl)⟩
end
section
set_option tactic.hygienic false
open PySem PySem.Spec PySem.Calls PySem.W PyProof.Rows
theorem pcB (w:World) (os:OsState) (g:Nat→Obj):∃g',segRunT treeTable pw w 39 an 1 2628 (stT w.params (spA w.params) g 216 611 os) (piecesOf stB eT cT ⟨177,0,177,8⟩ BB)=some (.next,stT w.params (spC w.params) g' 533 1030 os,cT,⟨327,0,349,24⟩):=
 ⟨gOf (tseg ttab pw w 39 an 1 2628 (stT w.params (spA w.params) g 216 611 os) (piecesOf stB eT cT ⟨177,0,177,8⟩ BB)),seg_of (by kernel_rfl)⟩
theorem pcC (w:World) (os:OsState) (g:Nat→Obj):∃g',segRunT treeTable pw w 39 an 1 2621 (stT w.params (spC w.params) g 533 1030 os) (piecesOf stC eT cT ⟨327,0,349,24⟩ BB)=some (.next,stT w.params (spD w.params) g' 789 1411 os,cT,⟨391,0,528,46⟩):=
 ⟨gOf (tseg ttab pw w 39 an 1 2621 (stT w.params (spC w.params) g 533 1030 os) (piecesOf stC eT cT ⟨327,0,349,24⟩ BB)),seg_of (by kernel_rfl)⟩
theorem pcD (w:World) (os:OsState) (g:Nat→Obj):∃g',segRunT treeTable pw w 39 an 1 3187 (stT w.params (spD w.params) g 789 1411 os) (piecesOf stD eT cT ⟨391,0,528,46⟩ BB)=some (.next,stT w.params (spE w.params) g' 972 1748 os,cT,⟨650,0,688,118⟩):=
 ⟨gOf (tseg ttab pw w 39 an 1 3187 (stT w.params (spD w.params) g 789 1411 os) (piecesOf stD eT cT ⟨391,0,528,46⟩ BB)),seg_of (by kernel_rfl)⟩
end
section
set_option tactic.hygienic false
open PySem PySem.Spec PySem.Calls PySem.W PyProof.Rows
noncomputable abbrev timp:=PySem.W.Fast.tw14789777615569096658
noncomputable abbrev tfen:=PySem.W.Fast.tw14289696077712309145
noncomputable abbrev tatx:=PySem.W.Fast.tw3805553451399329143
noncomputable abbrev tgo:=PySem.W.Fast.tw15667345088766844465
noncomputable def hOf (r:Option Shared) (a:Nat):Obj:=match r with
 | some s=>(s.heap.objs[a]?).getD default
 | none=>default
noncomputable abbrev osB:OsState:=(start (opening pw)).1.os
noncomputable abbrev s00:SharedT:=⟨.nil,0,{},#[],{},1,osB⟩
noncomputable def bootR (imp:(String→Option Builtin)→Program→World→Nat→SharedT→Thread→Option (SharedT×Thread)) (tb:String→Option Builtin) (atx:Thread→Option (List Value)) (w:World):Option SharedT:=
 match imp tb (opening pw) w 1009 s00 (start (opening pw)).2 with
 | some r=>match atx r.2 with
  | some []=>some r.1
  | _=>none
 | none=>none
noncomputable def fenR (fen:Program→Shared→Option Shared) (r:Option SharedT):Option Shared:=match r with
 | some s=>fen pw s.abs
 | none=>none
#check @Thread.atExitBegin
#check @PySem.W.Fast.tw3805553451399329143
theorem start_is:(start (opening pw)).1=s00.abs:=by kernel_rfl
theorem bootA (w:World):∃g',fenR tfen (bootR timp ttab tatx w)=some (stT w.params (spB w.params) g' 39 316 osB).abs:=
 ⟨hOf (fenR tfen (bootR timp ttab tatx w)),by kernel_rfl⟩
end
section
set_option tactic.hygienic false
open PySem PySem.Spec PySem.Calls PySem.W PyProof.Rows
theorem boot_fenced {w:World} {s:Shared} (h:fenR tfen (bootR timp ttab tatx w)=some s):fencedOpening treeTable pw w 20000=some s:=by
 have h:fenR fenceModules? (bootR impGoT treeTable Thread.atExitBegin w)=some s:=by
  rw [PySem.W.Fast.te14789777615569096658,PySem.W.Fast.te14364793385576792824,PySem.W.Fast.te3805553451399329143,PySem.W.Fast.te14289696077712309145];exact h
 unfold fenR at h
 cases h1:bootR impGoT treeTable Thread.atExitBegin w with
 | none=>rw [h1] at h;cases h
 | some s1=>
  rw [h1] at h
  unfold bootR at h1
  cases h2:impGoT treeTable (opening pw) w 1009 s00 (start (opening pw)).2 with
  | none=>rw [h2] at h1;cases h1
  | some r=>
   rw [h2] at h1
   cases h3:r.2.atExitBegin with
   | none=>dsimp only at h1;rw [h3] at h1;cases h1
   | some l=>
    cases l with
    | cons=>dsimp only at h1;rw [h3] at h1;cases h1
    | nil=>
     dsimp only at h1
     rw [h3] at h1
     obtain⟨sr,tr⟩:=r
     cases h1
     have e:=imp_go (N:=1) (impGo_of h2) (r:=sr.abs) (by unfold importEnds;rw [show tr.atExitBegin=some [] from h3])
     have m:=importEnds_mono 18990 _ _ _ _ e
     unfold fencedOpening
     rw [start_is,m]
     exact h
theorem preA (w:World) (os:OsState) (g:Nat→Obj):∃g',topGo treeTable pw w 39 an 12 (stT w.params (spB w.params) g 39 316 os).abs (topStub pw)=some ((stT w.params (spA0 w.params) g' 43 322 os).abs,⟨denote treeTable cT,cT,p0,BB⟩):=
 ⟨fun a=>match tgo ttab pw w 39 an 12 (stT w.params (spB w.params) g 39 316 os).abs (topStub pw)with
  | some r=>(r.1.heap.objs[a]?).getD default
  | none=>default,by
  rw [PySem.W.Fast.te15667345088766844465,PySem.W.Fast.te14364793385576792824,PySem.W.Fast.te11892475500146522536]
  kernel_rfl⟩
theorem blkA (w:World) (os:OsState) (g:Nat→Obj):segRun treeTable pw w 39 an 1 1 (stT w.params (spA0 w.params) g 43 322 os).abs (blockOf bT eT cT p0 BB)=some (.next,(stT w.params (spA0 w.params) g 43 322 os).abs,cT,p0):=by kernel_rfl
theorem sizeA (w:World) (os:OsState) (g:Nat→Obj):((stT w.params (spB w.params) g 39 316 os).abs.heap.isNs mainGlobals && (stT w.params (spB w.params) g 39 316 os).abs.gens.size == 0,(stT w.params (spB w.params) g 39 316 os).abs.heap.objs.size,(stT w.params (spB w.params) g 39 316 os).abs.heap.nsMap mainGlobals "__annotations__")=(true,39,an):=by kernel_rfl
theorem finA (w:World) (os:OsState) (g:Nat→Obj):topRun treeTable pw w 39 an 2 (stT w.params (spE w.params) g 972 1748 os).abs ⟨doneF .next,cT,⟨650,0,688,118⟩,BB⟩=some (stT w.params (spE w.params) g 972 1748 os).abs:=by kernel_rfl
end
section
set_option tactic.hygienic false
open PySem PySem.Spec PySem.Calls PySem.W PyProof.Rows
noncomputable def qV:Program:={ pw with main:={ pw.main with body:=match pw.main.body with | s::r=>[s,(r.getLast?).getD s] | []=>[]}}
noncomputable def lse:List Str:=["_wall","NetworkXException","NetworkXError","NetworkXAlgorithmError","NetworkXUnfeasible","NetworkXNoPath","NodeNotFound","_weight_function","_MAXSIZE","_is_int","_count_kind","count","bidirectional_dijkstra","astar_path","astar_path_length","AtlasView","AdjacencyView","_nbunch_iter","NodeView","OutEdgeDataView","EdgeDataView","OutEdgeView","EdgeView","_NOT_FOUND","cached_property","Graph","DiGraph","_law_weight"]
theorem lkA (w:World) (os:OsState) (g g':Nat→Obj):(staticsOk (importedModules pw.main.body) (stT w.params (spB w.params) g 39 316 os).abs.heap (stT w.params (spE w.params) g' 972 1748 os).abs.heap && namesBound pw (stT w.params (spE w.params) g' 972 1748 os).abs.heap && gensDone (stT w.params (spE w.params) g' 972 1748 os).abs && laidKept (stT w.params (spB w.params) g 39 316 os).abs.heap (stT w.params (spE w.params) g' 972 1748 os).abs.heap)=true:=by kernel_rfl
theorem treeOf_get {f:Nat→Obj} {n:Nat}:∀(k a b i:Nat),i+1<2 ^ k→a*i+b<n→(treeOf f k a b n).get i=some (f (a*i+b))
 | 0,_,_,_,h,_=>by simp at h
 | k+1,a,b,i,h,hn=>by
  have hb:Nat.blt b n=true:=Nat.ble_eq_true_of_le (by exact nt220 hn:b+1≤n)
  have h2:2 ^ (k+1)=2*2 ^ k:=by rw [Nat.pow_succ,Nat.mul_comm]
  unfold treeOf
  rw [hb]
  show(BT.node _ _ _).get i=_
  rw [BT.get_node]
  by_cases h0:i=0
  ·rw [if_pos h0,h0,Nat.mul_zero,Nat.zero_add]
  ·rw [if_neg h0]
   by_cases p:i % 2=1
   ·rw [if_pos p,treeOf_get k (a+a) (a+b) (i / 2) (by omega)] <;> rw [show(a+a)*(i / 2)+(a+b)=a*i+b by rw [←Nat.two_mul,X.KT.arith1 (s:=a) (b:=b) p]]
    exact hn
   ·rw [if_neg p,treeOf_get k (a+a) (a+a+b) (i / 2 - 1) (by omega)] <;> rw [show(a+a)*(i / 2 - 1)+(a+a+b)=a*i+b by rw [←Nat.two_mul,X.KT.arith2 (s:=a) (b:=b) h0 p]]
    exact hn
theorem stT_get {P:Params} {sp:List (Nat×Obj)} {g:Nat→Obj} {n t:Nat} {os:OsState} {a:Nat} (h:a<n) (h2:a+1<2 ^ 12):(stT P sp g n t os).abs.heap.get? a=alive (lookO P sp g a):=by
 have e:=treeOf_get (f:=lookO P sp g) (n:=n) 12 1 0 a h2 (nt137 h)
 rw [Nat.one_mul,Nat.add_zero] at e
 exact abs_get h e
theorem lkK0 (P:Params) (g:Nat→Obj):(kd.heap_1 P).map (fun p=>(Nat.blt p.1 972,alive (lookO P (spE P) g p.1)))=(kd.heap_1 P).map fun p=>(true,some p.2):=by kernel_rfl
theorem lkK (w:World) (os:OsState) (g:Nat→Obj):((kd.heap_1 w.params).map (·.1)).map (stT w.params (spE w.params) g 972 1748 os).abs.heap.get?=(kd.heap_1 w.params).map fun p=>some p.2:=by
 rw [List.map_map]
 refine List.map_inj_left.mpr fun p hp=>?_
 have e:=List.map_inj_left.mp (lkK0 w.params g) p hp
 have e1:=(Prod.mk.inj e).1
 have lt:p.1<972:=Nat.le_of_ble_eq_true e1
 show(stT w.params (spE w.params) g 972 1748 os).abs.heap.get? p.1=_
 rw [stT_get lt (Nat.lt_of_lt_of_le (Nat.succ_lt_succ lt) (by decide))]
 exact(Prod.mk.inj e).2
theorem lkT (w:World) (os:OsState) (g:Nat→Obj):[192,210,968].map (stT w.params (spE w.params) g 972 1748 os).abs.heap.get? = [192,210,968].map fun _=>some (tabObj #[]):=by kernel_rfl
theorem lkS (w:World) (os:OsState) (g:Nat→Obj):openSeen qV lse (importedModules pw.main.body) (fun _=>true) true (stT w.params (spE w.params) g 972 1748 os).abs=openGood qV lse:=by
 rw [PySem.W.Fast.te4187177175401517315]
 kernel_rfl
end
section
set_option tactic.hygienic false
open PySem PySem.Spec PySem.Calls PySem.W PyProof.Rows
noncomputable def P00:Params:={ strHash:=fun _=>0,shareClass:=fun _=>0,mergeTok:=fun t=>t,idOf:=fun _=>0,idOfShared:=fun _ _=>0,followText:=fun _=>false,idOfImm:=fun _=>0}
noncomputable def asK:List Addr:=(kd.heap_1 P00).map (·.1)
theorem asK_is (P:Params):asK=(kd.heap_1 P).map (·.1):=by kernel_rfl
noncomputable def HK:Hook:=kmHook kd.heap_1 asK asK_is [192,210,968]
theorem run_gen {p:Program} {w:World} {m:Nat} {a:Option Value} {env:Env} {b:List Stmt} {q:Pos} {stub:Thread} {s0 s1 s1' s2 s3 s4 s5 s6:Shared} {n1 nb n2 n3 n4 n5 n6 k2 k3 k4 N:Nat} {p0 p1 p2 p3 p4 p5:Pos}
  (h1:topGo treeTable p w m a n1 s0 stub=some (s1,⟨denote treeTable (.body b env),.body b env,p0,[topFrame q]⟩))
  (hb:segRun treeTable p w m a 1 nb s1 (blockOf b env (.body b env) p0 [topFrame q])=some (.next,s1',.body b env,p1))
  (h2:segRun treeTable p w m a 1 n2 s1' (piecesOf (b.take k2) env (.body b env) p1 [topFrame q])=some (.next,s2,.body b env,p2))
  (h3:segRun treeTable p w m a 1 n3 s2 (piecesOf ((b.drop k2).take k3) env (.body b env) p2 [topFrame q])=some (.next,s3,.body b env,p3))
  (h4:segRun treeTable p w m a 1 n4 s3 (piecesOf (((b.drop k2).drop k3).take k4) env (.body b env) p3 [topFrame q])=some (.next,s4,.body b env,p4))
  (h5:segRun treeTable p w m a 1 n5 s4 (piecesOf (((b.drop k2).drop k3).drop k4) env (.body b env) p4 [topFrame q])=some (.next,s5,.body b env,p5))
  (h6:topRun treeTable p w m a n6 s5 ⟨doneF .next,.body b env,p5,[topFrame q]⟩=some s6) (hN:n1+(nb+(n2+(n3+(n4+(n5+n6)))))≤N):topRun treeTable p w m a N s0 stub=some s6:=by
 have k5:=piece_app (rest:=[]) h5 (piece_nil h6)
 rw [List.append_nil] at k5
 have k4:=piece_app h4 k5
 rw [List.take_append_drop] at k4
 have k3:=piece_app h3 k4
 rw [List.take_append_drop] at k3
 have k2:=piece_app h2 k3
 rw [List.take_append_drop] at k2
 have r:=topRun_mono (N - (n1+(nb+(n2+(n3+(n4+(n5+n6))))))) _ _ _ _ (go_top h1 (piece_block hb k2))
 rwa [Nat.add_sub_cancel' hN] at r
theorem left_gen {p q:Program} {loose:List Str} {Xt:Shared→Bool} {α:Type} {Yf:Shared→α} {Ya:World→α} {N:Nat} {g0:Bool} {w:World} {s0 s1:Shared} {m:Nat} {a:Option Value} (h0:fencedOpening treeTable p w N=some s0)
  (hz:(s0.heap.isNs mainGlobals && s0.gens.size == 0,s0.heap.objs.size,s0.heap.nsMap mainGlobals "__annotations__")=(true,m,a)) (hr:topRun treeTable p w m a N s0 (topStub p)=some s1)
  (hl:(staticsOk (importedModules p.main.body) s0.heap s1.heap && namesBound p s1.heap && gensDone s1 && laidKept s0.heap s1.heap)=true) (hs:openSeen q loose (importedModules p.main.body) Xt g0 s1=openGood q loose) (hy:Yf s1=Ya w):
  (openEnds treeTable p w N).map (fun s=>(openSeen q loose (importedModules p.main.body) Xt g0 s,Yf s))=some (openGood q loose,Ya w):=by
 obtain⟨z1,z2,z3⟩:_∧_∧_:=by simpa only [Prod.mk.injEq] using hz
 have t:topFrom treeTable p w N s0=some s1:=by
  unfold topFrom
  rw [z1,z2,z3]
  dsimp only
  rw [hr]
  show(match(staticsOk (importedModules p.main.body) s0.heap s1.heap && namesBound p s1.heap && gensDone s1 && laidKept s0.heap s1.heap)with | true=>some s1 | false=>none)=_
  rw [hl]
 unfold openEnds
 rw [h0]
 show(topFrom treeTable p w N s0).map _=_
 rw [t]
 exact congrArg some (Prod.ext hs hy)
theorem hkA (w:World) (os:OsState) (g:Nat→Obj):HK.obs (stT w.params (spE w.params) g 972 1748 os).abs=HK.val w:=by
 refine Prod.ext ?_ (lkT w os g)
 show asK.map _=_
 rw [asK_is w.params]
 exact lkK w os g
theorem leftH:LeftO pw qV lse (fun _=>true) HK.obs HK.val 20000:=fun w=>by
 obtain⟨g,hb⟩:=bootA w
 obtain⟨g1,h1⟩:=preA w osB g
 obtain⟨g2,h2⟩:=pcA w osB g1
 obtain⟨g3,h3⟩:=pcB w osB g2
 obtain⟨g4,h4⟩:=pcC w osB g3
 obtain⟨g5,h5⟩:=pcD w osB g4
 exact left_gen (boot_fenced hb) (sizeA w osB g) (run_gen h1 (blkA w osB g1) (segRun_of h2) (segRun_of h3) (segRun_of h4) (segRun_of h5) (finA w osB g5) (by decide)) (lkA w osB g g5) (lkS w osB g5) (hkA w osB g5)
end
section
set_option tactic.hygienic false
open PySem PySem.Spec PySem.Calls PySem.W PyProof.Rows
noncomputable abbrev rwL:OpenLaw:=PySem.Challenge.rw_bf0028_01
theorem dk_is:(defOf qV "law").isSome=true:=by kernel_rfl
noncomputable def dL:DefRec:=((defOf qV "law").get dk_is).1
noncomputable def kL:List (Str×PySem.Expr):=((defOf qV "law").get dk_is).2
theorem dL_name:dL.name = "law" :=by kernel_rfl
noncomputable abbrev kLk:Look:={ strict:=!(importedModules pw.main.body).all cThrough.contains,foot:=none,bare:=(["vars","dir","locals"]:List Str).filter (readsOut pw pw.main.body)}
theorem lk1:noRoadLSs kLk pw.main.body=true:=by
 rw [PySem.W.Fast.te8326940854005059898];kernel_rfl
theorem lk2:namesMeet pw pw.main.body (fun _ n=>attrL n)=true:=by
 rw [PySem.W.Fast.te17119622794617984870];kernel_rfl
theorem lk3:namesResolve pw=true:=by
 rw [PySem.W.Fast.te8377067652309620493];kernel_rfl
theorem hlk:looksOpen rwL.row.prog=true:=by
 show looksOpen pw=true
 unfold looksOpen
 rw [lk1,lk2,lk3]
 kernel_rfl
theorem hw1:rwL.wellSaid=true:=by
 unfold OpenLaw.wellSaid OpenRow.wellSaid OpenRow.partSaid
 rw [hlk,PySem.W.Fast.te8326940854005059898,PySem.W.Fast.te17119622794617984870]
 kernel_rfl
theorem hw2:defOf qV rwL.row.name=some (dL,kL):=by kernel_rfl
theorem hw3:rwL.row.prog.theDef rwL.row.name=some (dL.params,dL.body,dL.scope):=by kernel_rfl
theorem hw4:kwWritten? dL.params.kwonlyargs dL.params.kw_defaults=some kL:=by kernel_rfl
theorem hw5:(chainsOk qV && opensWell rwL.row.prog && (frees rwL.row.toRowW && rwL.row.within.isEmpty))=true:=by kernel_rfl
theorem hw6:rwL.row.prog.bare:=⟨rfl,rfl,rfl,rfl,rfl,by kernel_rfl⟩
theorem hw7:rwL.row.toRowW.promised:=⟨[.list []],by kernel_rfl,by kernel_rfl⟩
theorem hw8:rwL.row.records = []:=by kernel_rfl
theorem hw9:(!rwL.row.writes || rwL.row.records.isEmpty)=true:=by kernel_rfl
theorem hdH (call:WalkS qV lse (fun _ _=>True) HK.says rwL.row.toRowW dL kL fun f vs=>PySem.call f vs):rwL.Holds:=
 holds_law hw1 fun k=>holds_openS (q:=qV) (loose:=lse) (Xt:=fun _=>true) (XP:=fun _ _=>True) (Yf:=HK.obs) (Ya:=HK.val) (YP:=HK.says) (N:=20000) leftH HK.of HK.keeps (fun _ _=>trivial) (fun _ _ _ _ _=>trivial) hw2 hw3 hw4 (fun _ _=>recFacts_nil hw8) hw9 k hw5 hw6 hw7 call
end
section
set_option tactic.hygienic false
open PySem PySem.Spec PySem.Calls PySem.W PyProof.Rows
noncomputable abbrev KF (P:Params):Frag:=kd.heap_1 P
variable {P:Params}
theorem dict_type:typeOf (.type "dict")=(Pure.pure (.type "type"):Sem Value):=by kernel_rfl
theorem dict_noget:specialOf (.type "dict") "__get__" =(Pure.pure none:Sem (Option Value)):=by unfold specialOf;rw [dict_type];show typeLookup (.type "type") "__get__" =_;rw [typeLookup_type,builtinLookup_eq_fast];kernel_rfl
theorem k_ns:NsK (KF P) mainGlobals:=⟨by kernel_rfl,by kernel_rfl⟩
theorem k_st:NsK (KF P) cStatics:=⟨by kernel_rfl,by kernel_rfl⟩
theorem k_rl:mIn (KF P) cStatics "sys.recursionlimit" =none:=by kernel_rfl
theorem k_th:mIn (KF P) cStatics "_thread.count" =none:=by kernel_rfl
theorem k_cls184:Cls (KF P) 184:=⟨by kernel_rfl,by kernel_rfl,by kernel_rfl,by kernel_rfl,by kernel_rfl,by kernel_rfl⟩
theorem k_cls269:Cls (KF P) 269:=⟨by kernel_rfl,by kernel_rfl,by kernel_rfl,by kernel_rfl,by kernel_rfl,by kernel_rfl⟩
theorem k_cls291:Cls (KF P) 291:=⟨by kernel_rfl,by kernel_rfl,by kernel_rfl,by kernel_rfl,by kernel_rfl,by kernel_rfl⟩
theorem k_cls572:Cls (KF P) 572:=⟨by kernel_rfl,by kernel_rfl,by kernel_rfl,by kernel_rfl,by kernel_rfl,by kernel_rfl⟩
theorem k_cls780:Cls (KF P) 780:=⟨by kernel_rfl,by kernel_rfl,by kernel_rfl,by kernel_rfl,by kernel_rfl,by kernel_rfl⟩
theorem k_cls949:Cls (KF P) 949:=⟨by kernel_rfl,by kernel_rfl,by kernel_rfl,by kernel_rfl,by kernel_rfl,by kernel_rfl⟩
theorem k_m184_159:MethF (KF P) 184 "__init__" 159:=⟨by kernel_rfl,by kernel_rfl⟩
theorem k_m184_173:MethF (KF P) 184 "__next__" 173:=⟨by kernel_rfl,by kernel_rfl⟩
theorem k_m780_616:MethF (KF P) 780 "__contains__" 616:=⟨by kernel_rfl,by kernel_rfl⟩
theorem k_m949_616:MethF (KF P) 949 "__contains__" 616:=⟨by kernel_rfl,by kernel_rfl⟩
theorem k_m780_745:MethF (KF P) 780 "is_directed" 745:=⟨by kernel_rfl,by kernel_rfl⟩
theorem k_m949_946:MethF (KF P) 949 "is_directed" 946:=⟨by kernel_rfl,by kernel_rfl⟩
theorem k_m269_230:MethF (KF P) 269 "__init__" 230:=⟨by kernel_rfl,by kernel_rfl⟩
theorem k_m291_230:MethF (KF P) 291 "__init__" 230:=⟨by kernel_rfl,by kernel_rfl⟩
theorem k_m269_251:MethF (KF P) 269 "__getitem__" 251:=⟨by kernel_rfl,by kernel_rfl⟩
theorem k_m291_287:MethF (KF P) 291 "__getitem__" 287:=⟨by kernel_rfl,by kernel_rfl⟩
theorem k_m780_630:MethF (KF P) 780 "__getitem__" 630:=⟨by kernel_rfl,by kernel_rfl⟩
theorem k_m949_630:MethF (KF P) 949 "__getitem__" 630:=⟨by kernel_rfl,by kernel_rfl⟩
theorem k_m780_592:MethF (KF P) 780 "__init__" 592:=⟨by kernel_rfl,by kernel_rfl⟩
theorem k_m949_803:MethF (KF P) 949 "__init__" 803:=⟨by kernel_rfl,by kernel_rfl⟩
theorem k_m780_644:MethF (KF P) 780 "add_nodes_from" 644:=⟨by kernel_rfl,by kernel_rfl⟩
theorem k_m949_847:MethF (KF P) 949 "add_nodes_from" 847:=⟨by kernel_rfl,by kernel_rfl⟩
theorem k_m780_689:MethF (KF P) 780 "add_edges_from" 689:=⟨by kernel_rfl,by kernel_rfl⟩
theorem k_m949_868:MethF (KF P) 949 "add_edges_from" 868:=⟨by kernel_rfl,by kernel_rfl⟩
theorem k_s184_185:SlotF (KF P) 184 "_cnt" 185 0:=⟨by kernel_rfl,by kernel_rfl,by kernel_rfl,by kernel_rfl,by kernel_rfl,by kernel_rfl,by kernel_rfl⟩
theorem k_s184_186:SlotF (KF P) 184 "_fast" 186 1:=⟨by kernel_rfl,by kernel_rfl,by kernel_rfl,by kernel_rfl,by kernel_rfl,by kernel_rfl,by kernel_rfl⟩
theorem k_s184_187:SlotF (KF P) 184 "_step" 187 2:=⟨by kernel_rfl,by kernel_rfl,by kernel_rfl,by kernel_rfl,by kernel_rfl,by kernel_rfl,by kernel_rfl⟩
theorem k_s269_270:SlotF (KF P) 269 "_atlas" 270 0:=⟨by kernel_rfl,by kernel_rfl,by kernel_rfl,by kernel_rfl,by kernel_rfl,by kernel_rfl,by kernel_rfl⟩
theorem k_s291_270:SlotF (KF P) 291 "_atlas" 270 0:=⟨by kernel_rfl,by kernel_rfl,by kernel_rfl,by kernel_rfl,by kernel_rfl,by kernel_rfl,by kernel_rfl⟩
theorem k_o780_node:OwnF (KF P) 780 "_node" := .of (by kernel_rfl) (by kernel_rfl) (by kernel_rfl)
theorem k_o780_adj:OwnF (KF P) 780 "_adj" := .of (by kernel_rfl) (by kernel_rfl) (by kernel_rfl)
theorem k_o780_succ:OwnF (KF P) 780 "_succ" := .of (by kernel_rfl) (by kernel_rfl) (by kernel_rfl)
theorem k_o780_pred:OwnF (KF P) 780 "_pred" := .of (by kernel_rfl) (by kernel_rfl) (by kernel_rfl)
theorem k_o780_graph:OwnF (KF P) 780 "graph" := .of (by kernel_rfl) (by kernel_rfl) (by kernel_rfl)
theorem k_o949_node:OwnF (KF P) 949 "_node" := .of (by kernel_rfl) (by kernel_rfl) (by kernel_rfl)
theorem k_o949_adj:OwnF (KF P) 949 "_adj" := .of (by kernel_rfl) (by kernel_rfl) (by kernel_rfl)
theorem k_o949_succ:OwnF (KF P) 949 "_succ" := .of (by kernel_rfl) (by kernel_rfl) (by kernel_rfl)
theorem k_o949_pred:OwnF (KF P) 949 "_pred" := .of (by kernel_rfl) (by kernel_rfl) (by kernel_rfl)
theorem k_o949_graph:OwnF (KF P) 949 "graph" := .of (by kernel_rfl) (by kernel_rfl) (by kernel_rfl)
theorem k_o572_attrname:OwnF (KF P) 572 "attrname" := .of (by kernel_rfl) (by kernel_rfl) (by kernel_rfl)
theorem k_o572_func:OwnF (KF P) 572 "func" := .of (by kernel_rfl) (by kernel_rfl) (by kernel_rfl)
theorem k_v780_graph_attr_dict_factory:ClsV (KF P) 780 "graph_attr_dict_factory" (.type "dict"):=⟨by kernel_rfl,fun M h=>Looks.of_pure dict_noget,by rfl,by decide,by kernel_rfl,fun M h=>Looks.of_pure dict_type⟩
theorem k_v780_node_dict_factory:ClsV (KF P) 780 "node_dict_factory" (.type "dict"):=⟨by kernel_rfl,fun M h=>Looks.of_pure dict_noget,by rfl,by decide,by kernel_rfl,fun M h=>Looks.of_pure dict_type⟩
theorem k_v780_adjlist_outer_dict_factory:ClsV (KF P) 780 "adjlist_outer_dict_factory" (.type "dict"):=⟨by kernel_rfl,fun M h=>Looks.of_pure dict_noget,by rfl,by decide,by kernel_rfl,fun M h=>Looks.of_pure dict_type⟩
theorem k_v780_adjlist_inner_dict_factory:ClsV (KF P) 780 "adjlist_inner_dict_factory" (.type "dict"):=⟨by kernel_rfl,fun M h=>Looks.of_pure dict_noget,by rfl,by decide,by kernel_rfl,fun M h=>Looks.of_pure dict_type⟩
theorem k_v780_edge_attr_dict_factory:ClsV (KF P) 780 "edge_attr_dict_factory" (.type "dict"):=⟨by kernel_rfl,fun M h=>Looks.of_pure dict_noget,by rfl,by decide,by kernel_rfl,fun M h=>Looks.of_pure dict_type⟩
theorem k_v780_node_attr_dict_factory:ClsV (KF P) 780 "node_attr_dict_factory" (.type "dict"):=⟨by kernel_rfl,fun M h=>Looks.of_pure dict_noget,by rfl,by decide,by kernel_rfl,fun M h=>Looks.of_pure dict_type⟩
theorem k_d780:DictF (KF P) 780 (refIn (findIn (KF P) (.ref 780) "__dict__")):=⟨by kernel_rfl,rcd_of (by kernel_rfl) (by kernel_rfl) (by kernel_rfl),by kernel_rfl,by kernel_rfl,by kernel_rfl,by kernel_rfl,any_some (by kernel_rfl)⟩
theorem k_v949_graph_attr_dict_factory:ClsV (KF P) 949 "graph_attr_dict_factory" (.type "dict"):=⟨by kernel_rfl,fun M h=>Looks.of_pure dict_noget,by rfl,by decide,by kernel_rfl,fun M h=>Looks.of_pure dict_type⟩
theorem k_v949_node_dict_factory:ClsV (KF P) 949 "node_dict_factory" (.type "dict"):=⟨by kernel_rfl,fun M h=>Looks.of_pure dict_noget,by rfl,by decide,by kernel_rfl,fun M h=>Looks.of_pure dict_type⟩
theorem k_v949_adjlist_outer_dict_factory:ClsV (KF P) 949 "adjlist_outer_dict_factory" (.type "dict"):=⟨by kernel_rfl,fun M h=>Looks.of_pure dict_noget,by rfl,by decide,by kernel_rfl,fun M h=>Looks.of_pure dict_type⟩
theorem k_v949_adjlist_inner_dict_factory:ClsV (KF P) 949 "adjlist_inner_dict_factory" (.type "dict"):=⟨by kernel_rfl,fun M h=>Looks.of_pure dict_noget,by rfl,by decide,by kernel_rfl,fun M h=>Looks.of_pure dict_type⟩
theorem k_v949_edge_attr_dict_factory:ClsV (KF P) 949 "edge_attr_dict_factory" (.type "dict"):=⟨by kernel_rfl,fun M h=>Looks.of_pure dict_noget,by rfl,by decide,by kernel_rfl,fun M h=>Looks.of_pure dict_type⟩
theorem k_v949_node_attr_dict_factory:ClsV (KF P) 949 "node_attr_dict_factory" (.type "dict"):=⟨by kernel_rfl,fun M h=>Looks.of_pure dict_noget,by rfl,by decide,by kernel_rfl,fun M h=>Looks.of_pure dict_type⟩
theorem k_d949:DictF (KF P) 949 (refIn (findIn (KF P) (.ref 949) "__dict__")):=⟨by kernel_rfl,rcd_of (by kernel_rfl) (by kernel_rfl) (by kernel_rfl),by kernel_rfl,by kernel_rfl,by kernel_rfl,by kernel_rfl,any_some (by kernel_rfl)⟩
section
variable {B:PM} (hK:InK (KF P) B)
include hK
theorem k_f966:FnAt B 966 sLw "_law_weight" .none .none:= .ofK hK (by kernel_rfl) (by kernel_rfl) (by kernel_rfl)
theorem k_f129:FnAt B 129 sWf "_weight_function" .none .none:= .ofK hK (by kernel_rfl) (by kernel_rfl) (by kernel_rfl)
theorem k_f159:FnAt B 159 sCInit "count.__init__" (.ref (dAt (KF P) 159)) .none:= .ofK hK (by kernel_rfl) (by kernel_rfl) (by kernel_rfl)
theorem k_t159:B (dAt (KF P) 159)=some (objAt (KF P) (dAt (KF P) 159)):=hK _ _ (objAt_of (by kernel_rfl))
theorem k_f173:FnAt B 173 (clsSt 15 3) "count.__next__" .none .none:= .ofK hK (by kernel_rfl) (by kernel_rfl) (by kernel_rfl)
theorem k_f143:FnAt B 143 sKind "_count_kind" .none .none:= .ofK hK (by kernel_rfl) (by kernel_rfl) (by kernel_rfl)
theorem k_f616:FnAt B 616 (clsSt 35 9) "Graph.__contains__" .none .none:= .ofK hK (by kernel_rfl) (by kernel_rfl) (by kernel_rfl)
theorem k_f745:FnAt B 745 (clsSt 35 26) "Graph.is_directed" .none .none:= .ofK hK (by kernel_rfl) (by kernel_rfl) (by kernel_rfl)
theorem k_f946:FnAt B 946 (clsSt 37 18) "DiGraph.is_directed" .none .none:= .ofK hK (by kernel_rfl) (by kernel_rfl) (by kernel_rfl)
theorem k_f562:FnAt B 562 sGet "cached_property.__get__" (.ref (dAt (KF P) 562)) .none:= .ofK hK (by kernel_rfl) (by kernel_rfl) (by kernel_rfl)
theorem k_t562:B (dAt (KF P) 562)=some (objAt (KF P) (dAt (KF P) 562)):=hK _ _ (objAt_of (by kernel_rfl))
theorem k_f230:FnAt B 230 sAInit "AtlasView.__init__" .none .none:= .ofK hK (by kernel_rfl) (by kernel_rfl) (by kernel_rfl)
theorem k_f251:FnAt B 251 sAGet "AtlasView.__getitem__" .none .none:= .ofK hK (by kernel_rfl) (by kernel_rfl) (by kernel_rfl)
theorem k_f287:FnAt B 287 sJGet "AdjacencyView.__getitem__" .none .none:= .ofK hK (by kernel_rfl) (by kernel_rfl) (by kernel_rfl)
theorem k_f630:FnAt B 630 sGGet "Graph.__getitem__" .none .none:= .ofK hK (by kernel_rfl) (by kernel_rfl) (by kernel_rfl)
theorem k_f599:FnAt B 599 (adjSt false) "Graph.adj" .none .none:= .ofK hK (by kernel_rfl) (by kernel_rfl) (by kernel_rfl)
theorem k_f810:FnAt B 810 (adjSt true) "DiGraph.adj" .none .none:= .ofK hK (by kernel_rfl) (by kernel_rfl) (by kernel_rfl)
theorem k_f592:FnAt B 592 (initSt false) "Graph.__init__" (.ref (dAt (KF P) 592)) .none:= .ofK hK (by kernel_rfl) (by kernel_rfl) (by kernel_rfl)
theorem k_t592:B (dAt (KF P) 592)=some (objAt (KF P) (dAt (KF P) 592)):=hK _ _ (objAt_of (by kernel_rfl))
theorem k_f803:FnAt B 803 (initSt true) "DiGraph.__init__" (.ref (dAt (KF P) 803)) .none:= .ofK hK (by kernel_rfl) (by kernel_rfl) (by kernel_rfl)
theorem k_t803:B (dAt (KF P) 803)=some (objAt (KF P) (dAt (KF P) 803)):=hK _ _ (objAt_of (by kernel_rfl))
theorem k_f644:FnAt B 644 (addnSt false) "Graph.add_nodes_from" .none .none:= .ofK hK (by kernel_rfl) (by kernel_rfl) (by kernel_rfl)
theorem k_f847:FnAt B 847 (addnSt true) "DiGraph.add_nodes_from" .none .none:= .ofK hK (by kernel_rfl) (by kernel_rfl) (by kernel_rfl)
theorem k_f689:FnAt B 689 (addeSt false) "Graph.add_edges_from" .none .none:= .ofK hK (by kernel_rfl) (by kernel_rfl) (by kernel_rfl)
theorem k_f868:FnAt B 868 (addeSt true) "DiGraph.add_edges_from" .none .none:= .ofK hK (by kernel_rfl) (by kernel_rfl) (by kernel_rfl)
theorem k_f206:FnAt B 206 sAs "astar_path" (.ref (dAt (KF P) 206)) (.ref (kAt (KF P) 206)):= .ofK hK (by kernel_rfl) (by kernel_rfl) (by kernel_rfl)
theorem k_t206:B (dAt (KF P) 206)=some (objAt (KF P) (dAt (KF P) 206)):=hK _ _ (objAt_of (by kernel_rfl))
theorem k_f215:FnAt B 215 sAl "astar_path_length" (.ref (dAt (KF P) 215)) (.ref (kAt (KF P) 215)):= .ofK hK (by kernel_rfl) (by kernel_rfl) (by kernel_rfl)
theorem k_t215:B (dAt (KF P) 215)=some (objAt (KF P) (dAt (KF P) 215)):=hK _ _ (objAt_of (by kernel_rfl))
theorem k_f197:FnAt B 197 sBd "bidirectional_dijkstra" (.ref (dAt (KF P) 197)) .none:= .ofK hK (by kernel_rfl) (by kernel_rfl) (by kernel_rfl)
theorem k_t197:B (dAt (KF P) 197)=some (objAt (KF P) (dAt (KF P) 197)):=hK _ _ (objAt_of (by kernel_rfl))
theorem k_f971:FnAt B 971 sLaw "law" .none .none:= .ofK hK (by kernel_rfl) (by kernel_rfl) (by kernel_rfl)
theorem k_lim:NoLim B:=NoLim.ofK hK k_st k_rl
theorem k_thr:NoThr B:=NoThr.ofK hK k_st k_th
theorem k_g__weight_function:GName B "_weight_function" (.ref 129):=GName.ofK hK k_ns (by kernel_rfl)
theorem k_g_count:GName B "count" (.ref 184):=GName.ofK hK k_ns (by kernel_rfl)
theorem k_g_heappush:GName B "heappush" (.builtin "_heapq.heappush"):=GName.ofK hK k_ns (by kernel_rfl)
theorem k_g_heappop:GName B "heappop" (.builtin "_heapq.heappop"):=GName.ofK hK k_ns (by kernel_rfl)
theorem k_g__count_kind:GName B "_count_kind" (.ref 143):=GName.ofK hK k_ns (by kernel_rfl)
theorem k_g_AdjacencyView:GName B "AdjacencyView" (.ref 291):=GName.ofK hK k_ns (by kernel_rfl)
theorem k_g_AtlasView:GName B "AtlasView" (.ref 269):=GName.ofK hK k_ns (by kernel_rfl)
theorem k_g_astar_path:GName B "astar_path" (.ref 206):=GName.ofK hK k_ns (by kernel_rfl)
theorem k_g_Graph:GName B "Graph" (.ref 780):=GName.ofK hK k_ns (by kernel_rfl)
theorem k_g_DiGraph:GName B "DiGraph" (.ref 949):=GName.ofK hK k_ns (by kernel_rfl)
theorem k_g_bidirectional_dijkstra:GName B "bidirectional_dijkstra" (.ref 197):=GName.ofK hK k_ns (by kernel_rfl)
theorem k_g_astar_path_length:GName B "astar_path_length" (.ref 215):=GName.ofK hK k_ns (by kernel_rfl)
theorem k_g__law_weight:GName B "_law_weight" (.ref 966):=GName.ofK hK k_ns (by kernel_rfl)
theorem k_g_nf:GName B "_NOT_FOUND" (.ref (refIn (some (mIn (KF P) mainGlobals "_NOT_FOUND")))):=GName.ofK hK k_ns (by kernel_rfl)
theorem k_g_max:GName B "_MAXSIZE" (.int 9223372036854775807 (tokOf ((mIn (KF P) mainGlobals "_MAXSIZE").getD .none))):=GName.ofK hK k_ns (by kernel_rfl)
theorem k_exc:ExcB B "NetworkXNoPath" 108:=ExcB.ofK (N:=(clsAt (KF P) 108).ns) (bm:=(clsAt (KF P) 108).mro.tail) (nm:=(clsAt (KF P) 108).name) (q:=(clsAt (KF P) 108).qualname) (bs:=(clsAt (KF P) 108).bases) (hdct:=(clsAt (KF P) 108).hasDict) (sn:=(clsAt (KF P) 108).slotNames) (sub:=(clsAt (KF P) 108).subclasses) (ab:=(clsAt (KF P) 108).abstract) (col:=(clsAt (KF P) 108).collection) (dd:=(objAt (KF P) 108).dict) (k0:=slAt (KF P) 108 0) (k1:=slAt (KF P) 108 1) (k2:=slAt (KF P) 108 2) (k3:=slAt (KF P) 108 3) (k5:=slAt (KF P) 108 5) hK k_ns (by kernel_rfl) (by kernel_rfl) ⟨by kernel_rfl,by kernel_rfl⟩ (by kernel_rfl) (by kernel_rfl)
theorem k_c215:∃o fd,B 215=some o∧o.data = .func fd∧fd.code = .ref 214:=code_ofK hK (by kernel_rfl) (by kernel_rfl) (by kernel_rfl)
theorem k_c197:∃o fd,B 197=some o∧o.data = .func fd∧fd.code = .ref 196:=code_ofK hK (by kernel_rfl) (by kernel_rfl) (by kernel_rfl)
theorem k_c971:∃o fd,B 971=some o∧o.data = .func fd∧fd.code = .ref 970:=code_ofK hK (by kernel_rfl) (by kernel_rfl) (by kernel_rfl)
variable (bi:BiB B)
include bi
theorem k_b_callable:GName B "callable" (.builtin "callable"):=GName.bi hK k_ns (by kernel_rfl) bi (by kernel_rfl) (by decide)
theorem k_b_next:GName B "next" (.builtin "next"):=GName.bi hK k_ns (by kernel_rfl) bi (by kernel_rfl) (by decide)
theorem k_b_list:GName B "list" (.type "list"):=GName.bi hK k_ns (by kernel_rfl) bi (by kernel_rfl) (by decide)
theorem k_b_reversed:GName B "reversed" (.type "reversed"):=GName.bi hK k_ns (by kernel_rfl) bi (by kernel_rfl) (by decide)
theorem k_b_type:GName B "type" (.type "type"):=GName.bi hK k_ns (by kernel_rfl) bi (by kernel_rfl) (by decide)
theorem k_b_int:GName B "int" (.type "int"):=GName.bi hK k_ns (by kernel_rfl) bi (by kernel_rfl) (by decide)
theorem k_b_sum:GName B "sum" (.builtin "sum"):=GName.bi hK k_ns (by kernel_rfl) bi (by kernel_rfl) (by decide)
theorem k_b_zip:GName B "zip" (.type "zip"):=GName.bi hK k_ns (by kernel_rfl) bi (by kernel_rfl) (by decide)
theorem k_b_len:GName B "len" (.builtin "len"):=GName.bi hK k_ns (by kernel_rfl) bi (by kernel_rfl) (by decide)
theorem k_b_range:GName B "range" (.type "range"):=GName.bi hK k_ns (by kernel_rfl) bi (by kernel_rfl) (by decide)
end
section
variable {prog:Program} {w:World} {B:PM}
theorem all_graph (hK:InK (KF P) B):GraphF (KF P) B where
 cls d:=by cases d;exact k_cls780;exact k_cls949
 own d x hx:=by
  simp only [List.mem_cons,List.not_mem_nil,or_false] at hx
  cases d
  ·rcases hx with rfl | rfl | rfl | rfl | rfl
   ·exact k_o780_node
   ·exact k_o780_adj
   ·exact k_o780_succ
   ·exact k_o780_pred
   ·exact k_o780_graph
  ·rcases hx with rfl | rfl | rfl | rfl | rfl
   ·exact k_o949_node
   ·exact k_o949_adj
   ·exact k_o949_succ
   ·exact k_o949_pred
   ·exact k_o949_graph
 mCont d:=by cases d;exact k_m780_616;exact k_m949_616
 mDir d:=by cases d;exact k_m780_745;exact k_m949_946
 fCont:=k_f616 hK
 fDirG:=k_f745 hK
 fDirD:=k_f946 hK
 lim:=k_lim hK
theorem all_count (hK:InK (KF P) B) (bi:BiB B):CountF (KF P) B where
 cls:=k_cls184
 init:=k_m184_159
 next:=k_m184_173
 cnt:=k_s184_185
 fast:=k_s184_186
 step:=k_s184_187
 fInit:=⟨_,_,k_f159 hK,k_t159 hK,tokOf ((seqL (objAt (KF P) (dAt (KF P) 159))).getD 0 .none),tokOf ((seqL (objAt (KF P) (dAt (KF P) 159))).getD 1 .none),seqN (objAt (KF P) (dAt (KF P) 159)),by kernel_rfl⟩
 fNext:=k_f173 hK
 fKind:=k_f143 hK
 gKind:=k_g__count_kind hK
 gType:=k_b_type hK bi
 gInt:=k_b_int hK bi
 gMax:=⟨_,k_g_max hK⟩
 lim:=k_lim hK
theorem all_bd (hK:InK (KF P) B) (bi:BiB B) (b1:BmB B (KF P) 192):BdF prog w (KF P) B where
 inK:=hK
 gF:=all_graph hK
 cF:=all_count hK bi
 lw:=k_f966 hK
 lwF:=⟨objAt (KF P) 966,hK _ _ (objAt_of (by kernel_rfl)),by kernel_rfl⟩
 wf:=k_f129 hK
 gCallable:=k_b_callable hK bi
 gWf:=k_g__weight_function hK
 gCount:=k_g_count hK
 gNext:=k_b_next hK bi
 gPush:=k_g_heappush hK
 gPop:=k_g_heappop hK
 gL:=k_b_list hK bi
 gR:=k_b_reversed hK bi
 nest:= .ofK hK k_ns b1 (by kernel_rfl)
 lim:=k_lim hK
theorem all_view (hK:InK (KF P) B):ViewF (KF P) B where
 cls b:=by cases b;exact k_cls269;exact k_cls291
 init b:=by cases b;exact k_m269_230;exact k_m291_230
 slot b:=by cases b;exact k_s269_270;exact k_s291_270
 fInit:=k_f230 hK
 lim:=k_lim hK
theorem all_cpG (hK:InK (KF P) B):∃cp dcp ocp od l t,findIn (KF P) (.ref 780) "adj" =some (some (.ref cp))∧specialIn (KF P) (.ref cp) "__get__" =some (some (.ref 562))∧takesIn (KF P) (.ref cp)=some false∧hasDictIn (KF P) 780=true∧
  B cp=some ocp∧PlainO 572 dcp (fun _=>True) ocp∧B dcp=some od∧InsW l od∧getA l "func" =some (.ref 599)∧getA l "attrname" =some (.str "adj" t):=
 ⟨refIn (findIn (KF P) (.ref 780) "adj"),_,objAt (KF P) (refIn (findIn (KF P) (.ref 780) "adj")),objAt (KF P) ((objAt (KF P) (refIn (findIn (KF P) (.ref 780) "adj"))).dict.getD 0),_,tokOf ((getA (entsOf (objAt (KF P) ((objAt (KF P) (refIn (findIn (KF P) (.ref 780) "adj"))).dict.getD 0))) "attrname").getD .none),
  by kernel_rfl,by kernel_rfl,by kernel_rfl,by kernel_rfl,hK _ _ (objAt_of (by kernel_rfl)),⟨by kernel_rfl,by kernel_rfl,by kernel_rfl,trivial⟩,hK _ _ (objAt_of (by kernel_rfl)),insW_of (by kernel_rfl) (by kernel_rfl),by kernel_rfl,by kernel_rfl⟩
theorem all_cpD (hK:InK (KF P) B):∃cp dcp ocp od l t,findIn (KF P) (.ref 949) "adj" =some (some (.ref cp))∧specialIn (KF P) (.ref cp) "__get__" =some (some (.ref 562))∧takesIn (KF P) (.ref cp)=some false∧hasDictIn (KF P) 949=true∧
  B cp=some ocp∧PlainO 572 dcp (fun _=>True) ocp∧B dcp=some od∧InsW l od∧getA l "func" =some (.ref 810)∧getA l "attrname" =some (.str "adj" t):=
 ⟨refIn (findIn (KF P) (.ref 949) "adj"),_,objAt (KF P) (refIn (findIn (KF P) (.ref 949) "adj")),objAt (KF P) ((objAt (KF P) (refIn (findIn (KF P) (.ref 949) "adj"))).dict.getD 0),_,tokOf ((getA (entsOf (objAt (KF P) ((objAt (KF P) (refIn (findIn (KF P) (.ref 949) "adj"))).dict.getD 0))) "attrname").getD .none),
  by kernel_rfl,by kernel_rfl,by kernel_rfl,by kernel_rfl,hK _ _ (objAt_of (by kernel_rfl)),⟨by kernel_rfl,by kernel_rfl,by kernel_rfl,trivial⟩,hK _ _ (objAt_of (by kernel_rfl)),insW_of (by kernel_rfl) (by kernel_rfl),by kernel_rfl,by kernel_rfl⟩
theorem all_adj (hK:InK (KF P) B):AdjF (KF P) B where
 cpC:=k_cls572
 cpOwn x hx:=by
  simp only [List.mem_cons,List.not_mem_nil,or_false] at hx
  rcases hx with rfl | rfl
  ·exact k_o572_attrname
  ·exact k_o572_func
 cpFunc:=by kernel_rfl
 getF:=by
  exact⟨_,_,(seqL (objAt (KF P) (dAt (KF P) 562))).getD 0 .none,seqN (objAt (KF P) (dAt (KF P) 562)),k_f562 hK,k_t562 hK,by kernel_rfl⟩
 nf:=⟨_,k_g_nf hK⟩
 cp d:=by cases d;exact all_cpG hK;exact all_cpD hK
 dict d:=by cases d;exact⟨_,k_d780⟩;exact⟨_,k_d949⟩
 thr:=k_thr hK
 fAdj d:=by cases d;exact k_f599 hK;exact k_f810 hK
 gView:=k_g_AdjacencyView hK
 view:=all_view hK
theorem all_item (hK:InK (KF P) B):ItemF (KF P) B where
 adj:=all_adj hK
 gr:=all_graph hK
 gA:=k_g_AtlasView hK
 fA:=k_f251 hK
 fJ:=k_f287 hK
 fG:=k_f630 hK
 mA:=⟨k_m269_251,by kernel_rfl⟩
 mJ:=⟨k_m291_287,by kernel_rfl⟩
 mG d:=by cases d;exact k_m780_630;exact k_m949_630
 mG':=by kernel_rfl
theorem all_as (hK:InK (KF P) B):AsAt B:=by
 exact⟨_,_,_,(seqL (objAt (KF P) (dAt (KF P) 206))).getD 0 .none,(seqL (objAt (KF P) (dAt (KF P) 206))).getD 1 .none,seqN (objAt (KF P) (dAt (KF P) 206)),mIn (KF P) (kAt (KF P) 206),k_f206 hK,k_t206 hK,by kernel_rfl,ns_kept hK ⟨by kernel_rfl,by kernel_rfl⟩,by kernel_rfl⟩
theorem all_al (hK:InK (KF P) B):AlAt B:=by
 exact⟨_,_,_,(seqL (objAt (KF P) (dAt (KF P) 215))).getD 0 .none,(seqL (objAt (KF P) (dAt (KF P) 215))).getD 1 .none,seqN (objAt (KF P) (dAt (KF P) 215)),mIn (KF P) (kAt (KF P) 215),k_f215 hK,k_t215 hK,by kernel_rfl,ns_kept hK ⟨by kernel_rfl,by kernel_rfl⟩,by kernel_rfl⟩
theorem all_alF (hK:InK (KF P) B) (bi:BiB B) (b1:BmB B (KF P) 192) (b2:BmB B (KF P) 210):AlF prog w (KF P) B where
 bd:=all_bd hK bi b1
 item:=all_item hK
 as:=all_as hK
 al:=all_al hK
 exc:=k_exc hK
 nest:= .ofK hK k_ns b2 (by kernel_rfl)
 code:=k_c215 hK
 gSum:=k_b_sum hK bi
 gZip:=k_b_zip hK bi
 gAs:=k_g_astar_path hK
theorem all_build (hK:InK (KF P) B):BuildF (KF P) B where
 inK:=hK
 gr:=all_graph hK
 init d:=by cases d;exact k_m780_592;exact k_m949_803
 fInit d:=by
  cases d
  ·exact⟨_,_,seqN (objAt (KF P) (dAt (KF P) 592)),k_f592 hK,k_t592 hK,by kernel_rfl⟩
  ·exact⟨_,_,seqN (objAt (KF P) (dAt (KF P) 803)),k_f803 hK,k_t803 hK,by kernel_rfl⟩
 fact d x hx:=by
  simp only [List.mem_cons,List.not_mem_nil,or_false] at hx
  cases d
  ·rcases hx with rfl | rfl | rfl | rfl | rfl | rfl
   ·exact k_v780_graph_attr_dict_factory
   ·exact k_v780_node_dict_factory
   ·exact k_v780_adjlist_outer_dict_factory
   ·exact k_v780_adjlist_inner_dict_factory
   ·exact k_v780_edge_attr_dict_factory
   ·exact k_v780_node_attr_dict_factory
  ·rcases hx with rfl | rfl | rfl | rfl | rfl | rfl
   ·exact k_v949_graph_attr_dict_factory
   ·exact k_v949_node_dict_factory
   ·exact k_v949_adjlist_outer_dict_factory
   ·exact k_v949_adjlist_inner_dict_factory
   ·exact k_v949_edge_attr_dict_factory
   ·exact k_v949_node_attr_dict_factory
theorem all_law (hK:InK (KF P) B) (bi:BiB B) (b1:BmB B (KF P) 192) (b2:BmB B (KF P) 210) (b3:BmB B (KF P) 968):LawF prog w (KF P) B where
 al:=all_alF hK bi b1 b2
 bu:=all_build hK
 fN d:=by cases d;exact k_f644 hK;exact k_f847 hK
 fE d:=by cases d;exact k_f689 hK;exact k_f868 hK
 mN d:=by cases d;exact k_m780_644;exact k_m949_847
 mE d:=by cases d;exact k_m780_689;exact k_m949_868
 gLen:=k_b_len hK bi
 gRange:=k_b_range hK bi
 gGraph:=k_g_Graph hK
 gDi:=k_g_DiGraph hK
 gBd:=k_g_bidirectional_dijkstra hK
 gAl:=k_g_astar_path_length hK
 gLw:=k_g__law_weight hK
 fBd:=⟨_,_,tokOf ((seqL (objAt (KF P) (dAt (KF P) 197))).getD 0 .none),seqN (objAt (KF P) (dAt (KF P) 197)),k_f197 hK,k_t197 hK,by kernel_rfl⟩
 bdCode:=k_c197 hK
 code:=k_c971 hK
 nest:= .ofK hK k_ns b3 (by kernel_rfl)
end
theorem k_off192:(KF P).lookup 192=none:=by kernel_rfl
theorem k_off210:(KF P).lookup 210=none:=by kernel_rfl
theorem k_off968:(KF P).lookup 968=none:=by kernel_rfl
theorem k_cd192:codeHdIn (KF P) 196 192=true:=by kernel_rfl
theorem k_cd210:codeHdIn (KF P) 214 210=true:=by kernel_rfl
theorem k_cd968:codeHdIn (KF P) 970 968=true:=by kernel_rfl
theorem k_law:nsIn (KF P) mainGlobals "law" =some (some (.ref 971)):=by kernel_rfl
theorem law_runs {prog:Program} {w:World} {s₁:Shared} {mg mb:Str→Option Value} {sl:Addr} {oS:Obj} {vs:Array Value} (X:(KF P).In s₁.heap) (t1:s₁.heap.get? 192=some (tabObj #[])) (t2:s₁.heap.get? 210=some (tabObj #[])) (t3:s₁.heap.get? 968=some (tabObj #[]))
  (hg:s₁.heap.Ns mainGlobals mg) (hb:s₁.heap.Ns builtinsNs mb) (hbi:∀x:Str,x≠"__name__"→mb x=bootBuiltins x) (hbm:∃bm ob,mg "__builtins__" =some (.ref bm)∧bm≠builtinsNs∧s₁.heap.get? bm=some ob∧ob.cls = .type "module"∧ob.dict=some builtinsNs∧ob.data = .plain)
  (hgens:s₁.gens = #[]) (hsl:s₁.heap.get? sl=some oS) (eS:ListO vs oS) (hv:∀(i:Nat) (v:Value),vs[i]?=some v→∃k t,v=Value.int k t) (hz:vs.size≤63) {Q E:Value→Shared→Prop}
  (hq:∀s':Shared,s'.os=s₁.os→AllBare s'.gens→OldK s₁.heap s'.heap→Q (.bool true) s'):wpS (model prog w) callerA (PySem.call (.ref 971) [.ref sl]) Q E s₁:=by
 letI:GenI:=⟨AllBare⟩
 have hK:InK (KF P) (butT s₁.heap):=fun a o e=>by
  rw [butT_get (fun q=>by rw [q,k_off192] at e;cases e) (fun q=>by rw [q,k_off210] at e;cases e) (fun q=>by rw [q,k_off968] at e;cases e)]
  exact X a o e
 have hst:∃o,butT s₁.heap cStatics=some o:=by
  obtain⟨o,ho,_⟩:=nsO_of_K (K:=KF P) k_st
  exact⟨o,hK _ _ ho⟩
 have S:St (butT s₁.heap) ((192,Tab0)::(210,Tab0)::(968,Tab0)::[]) s₁.heap:=by
  refine⟨butT_keep,fun p hp=>?_,fun p hp=>?_,by decide,fun p hp=>?_,hst⟩
  ·simp only [List.mem_cons,List.not_mem_nil,or_false] at hp
   rcases hp with rfl | rfl | rfl
   ·exact⟨_,t1,rfl⟩
   ·exact⟨_,t2,rfl⟩
   ·exact⟨_,t3,rfl⟩
  ·simp only [List.mem_cons,List.not_mem_nil,or_false] at hp
   rcases hp with rfl | rfl | rfl <;> rfl
  ·simp only [List.mem_cons,List.not_mem_nil,or_false] at hp
   rcases hp with rfl | rfl | rfl <;> decide
 have notTab:∀{a:Addr} {o:Obj},s₁.heap.get? a=some o→o.cls≠ .none→butT s₁.heap a=some o:=fun {a o} e hc=>by
  rw [butT_get (fun q=>by rw [q,t1] at e;cases e;exact hc rfl) (fun q=>by rw [q,t2] at e;cases e;exact hc rfl) (fun q=>by rw [q,t3] at e;cases e;exact hc rfl)]
  exact e
 have bi:BiB (butT s₁.heap):=by
  obtain⟨o,ho,hn⟩:=ns_iff.mp hb
  refine⟨o,mb,?_,hn,hbi⟩
  rw [butT_get (by decide) (by decide) (by decide)]
  exact ho
 have hmg:mIn (KF P) mainGlobals=mg:=ns_uniq (ns_kept hK k_ns s₁.heap butT_keep) hg
 have bm:∀T,s₁.heap.get? T=some (tabObj #[])→BmB (butT s₁.heap) (KF P) T:=fun T hT=>by
  obtain⟨bm,ob,h1,h2,h3,h4,h5,h6⟩:=hbm
  refine⟨bm,ob,by rw [hmg];exact h1,h2,fun q=>?_,fun q=>?_,notTab h3 (by rw [h4];nofun),h4,h5,h6⟩
  ·obtain⟨o,ho,es,ep,hd,_⟩:=ns_iff.mp hg
   rw [q,ho] at h3;cases h3
   rw [h6] at hd;cases hd
  ·rw [q,hT] at h3;cases h3;cases h4
 have hsl':butT s₁.heap sl=some oS:=notTab hsl (by rw [eS.1];nofun)
 obtain⟨h,g,d,tk,os⟩:=s₁
 have hg0:GenI.ok g:=by
  have e:g = #[]:=hgens
  rw [e];exact AllBare.empty
 have Rm:Room callerA 21 190:=⟨rfl,by decide,by decide⟩
 refine(law_ok (A:=callerA) (X:=noX) (sc:=fun i=>match vs[i]? with | some (.int k _)=>k | _=>0) Rm rfl (fun g hg=>AllBare.push hg rfl) (k_f971 hK) (all_law (prog:=prog) (w:=w) hK bi (bm _ t1) (bm _ t2) (bm _ t3)) hsl' eS (fun i v e=>?_) hz S).tr g d tk os Q E hg0 (fun v h' g' tk' hg' ⟨ev,B',hle,S'⟩=>?_) (fun _ _ _ _ _ z=>z.elim)
 ·obtain⟨k,t,rfl⟩:=hv i v e
  exact⟨t,by rw [e]⟩
 ·subst ev
  refine hq _ rfl hg' ?_
  have tab:∀T c,h.get? T=some (tabObj #[])→codeHdIn (KF P) c T=true→(∃o,h'.get? T=some o∧TabG o)→asItWas h h' T (tabObj #[])∧∃o',h'.get? T=some o':=fun T c hT hc ⟨o,ho,ps,e⟩=>by
   subst e
   refine⟨.inr (.inl ⟨codeTable_of X hc,rfl,#[],ps,rfl,?_⟩),_,ho⟩
   rw [ho]
   simp
  have T1:=tab 192 196 t1 k_cd192 (S'.own (192,TabG) (.head _))
  have T2:=tab 210 214 t2 k_cd210 (S'.own (210,TabG) (.tail _ (.head _)))
  have T3:=tab 968 970 t3 k_cd968 (S'.own (968,TabG) (.tail _ (.tail _ (.head _))))
  have all:∀b o,h.get? b=some o→asItWas h h' b o∧∃o',h'.get? b=some o':=fun b o e=>by
   by_cases q1:b=192
   ·subst q1;rw [t1] at e;cases e;exact T1
   ·by_cases q2:b=210
    ·subst q2;rw [t2] at e;cases e;exact T2
    ·by_cases q3:b=968
     ·subst q3;rw [t3] at e;cases e;exact T3
     ·have hb':=S'.keep b o (hle b o ((butT_get q1 q2 q3).trans e))
      exact⟨.inl hb',o,hb'⟩
  exact⟨fun b o e=>(all b o e).1,fun b o e=>(all b o e).2⟩
end
end Mine
open PySem PySem.Spec PySem.Calls PySem.W PyProof.Rows Mine
theorem PySem.Challenge.cw_bf0028_01_holds : PySem.Challenge.rw_bf0028_01.Holds :=
 Mine.hdH fun w s₀ s₁ mg mb G Y a o pm cd doc dV kV ho hdat hcd hD hmg hgens args vals as hpre hlay hrd hwl hlo=>by
 have X:(KF w.params).In s₁.heap:=Y.1
 have tabs:=Y.2
 have T:=G.T
 have ea:a=971:=by
  have e1:=mg_of X T.g k_law
  have e2:mg "law" =some (.ref a):=Mine.dL_name▸hmg
  rw [e1] at e2
  cases e2;rfl
 subst ea
 have hsh:=(pre_splitW hpre).1
 have hcond:=(pre_splitW hpre).2
 obtain⟨d,r,e1,h1,h2⟩:=hasAllW_cons (e:= .list .int) (es:=[]) hsh
 have e2:=hasAllW_nil h2
 subst e1 e2
 obtain⟨xs,rfl,hi⟩:=hasW_list h1
 have hlen:=pre_len (holds_andW hcond).1
 cases hrd with
 | cons r1 r2=>
  cases r2
  cases r1 with
  | list h3 h4 h5 h6=>
   rename_i sl oS vs n as'
   obtain⟨l1,l2⟩:=reads_ints h6 hi
   refine law_runs (mg:=mg) (mb:=mb) (oS:=oS) (vs:=vs) X (tabs 192 (by decide)) (tabs 210 (by decide)) (tabs 968 (by decide)) T.g T.b T.builtins T.bmain hgens h3 ⟨h4,n,h5⟩ (fun i v e=>l2 i v (by rw [←e];simp)) (by rw [←Array.length_toList,l1];exact hlen) fun s' e1 e2 e3=>?_
   exact⟨.inl ⟨.bool true,.bool true,[],rfl,fun cls=>rfl,.bool true,by wrow_post,fun _=>⟨List.nodup_nil,fun a ha=>absurd ha List.not_mem_nil⟩⟩,e3,e1,e2⟩
