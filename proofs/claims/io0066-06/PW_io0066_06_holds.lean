import PyProof.Rows.All
import Wide.All
import OpenK.AllK
import Wide.FinOn
import PySem.Challenge.RW_io0066_06
set_option Elab.async false
set_option tactic.hygienic false
set_option linter.all false
set_option bootstrap.genMatcherCode false
set_option compiler.extract_closed false
set_option maxRecDepth 100000
namespace Mine.Internal
noncomputable abbrev zznbl:=@Nat.le_of_ble_eq_true
noncomputable abbrev zzwqm:=@PySem.wpAny_mono
noncomputable abbrev zzwqb:=@PySem.wpAny_bind
noncomputable abbrev zzwqp:=@PySem.wpAny_pure
noncomputable abbrev zznar:=@Nat.le_add_right
noncomputable abbrev zznal:=@Nat.le_add_left
noncomputable abbrev zznlu:=@Nat.lt_of_le_of_lt
noncomputable abbrev zznlv:=@Nat.lt_of_lt_of_le
noncomputable abbrev zznlt:=@Nat.le_trans
noncomputable abbrev zznlr:=@Nat.le_refl
noncomputable abbrev zzdef:=@decide_eq_false
noncomputable abbrev zzlms:=@List.mem_cons_self
noncomputable abbrev zzlmc:=@List.mem_cons_of_mem
noncomputable abbrev zzosi:=@Option.some.inj
noncomputable abbrev zzlaa:=@List.append_assoc
noncomputable abbrev zznss:=@Nat.succ_le_succ
noncomputable abbrev zzlge:=@List.getElem?_eq_getElem
noncomputable abbrev zzbft:=@Bool.false_ne_true
noncomputable abbrev zzode:=@of_decide_eq_true
noncomputable abbrev zzdet:=@decide_eq_true
theorem lin1 {l r L R:Nat}(h:l≤r)(v:L+r≤R+l:=by simp +arith only):L≤R:=Nat.le_of_add_le_add_right (zznlt v (Nat.add_le_add_left h R))
theorem lin2 {l r a b L R:Nat}(h:l≤r)(g:a≤b)(v:L+(r+b)≤R+(l+a):=by simp +arith only):L≤R:=lin1 (Nat.add_le_add h g) v
theorem lin3 {l r a b c d L R:Nat}(h:l≤r)(g:a≤b)(k:c≤d)(v:L+(r+b+d)≤R+(l+a+c):=by simp +arith only):L≤R:=lin2 (Nat.add_le_add h g) k v
theorem lin4 {l r a b c d e f L R:Nat}(h:l≤r)(g:a≤b)(k:c≤d)(m:e≤f)(v:L+(r+b+d+f)≤R+(l+a+c+e):=by simp +arith only):L≤R:=lin3 (Nat.add_le_add h g) k m v
theorem linF1 {l r:Nat}(h:l≤r)(v:r+1≤l:=by simp +arith only):False:=Nat.lt_irrefl _ (zznlt v h)
theorem linF2 {l r a b:Nat}(h:l≤r)(g:a≤b)(v:r+b+1≤l+a:=by simp +arith only):False:=linF1 (Nat.add_le_add h g) v
theorem linF3 {l r a b c d:Nat}(h:l≤r)(g:a≤b)(k:c≤d)(v:r+b+d+1≤l+a+c:=by simp +arith only):False:=linF2 (Nat.add_le_add h g) k v
theorem linF4 {l r a b c d e f:Nat}(h:l≤r)(g:a≤b)(k:c≤d)(m:e≤f)(v:r+b+d+f+1≤l+a+c+e:=by simp +arith only):False:=linF3 (Nat.add_le_add h g) k m v
theorem lsub {l x y:Nat}(h:l≤x-y)(p:1≤l:=by simp +arith only):l+y≤x:=Nat.add_le_of_le_sub (Nat.le_of_lt (Nat.lt_of_sub_pos (zznlv p h))) h
theorem sle (a b:Nat):a≤a-b+b:=Nat.le_add_of_sub_le (zznlr _)
theorem sca (m n:Nat)(h:m≤n):n-m+m≤n:=Nat.le_of_eq (Nat.sub_add_cancel h)
theorem eqL {a b:Nat}(h:a=b):a≤b:=Nat.le_of_eq h
theorem eqR {a b:Nat}(h:a=b):b≤a:=Nat.le_of_eq h.symm
theorem mll {a b:Nat}(k:Nat)(h:a≤b):k*a≤k*b:=Nat.mul_le_mul_left k h
theorem zn2 {a:Nat}(h1:a≤16777216): (a:Int)≤(16777216:Int):=Int.ofNat_le.mpr h1
theorem zn5 {a b:Nat}(h1:(a+1)<b): b=((b-1)+1):=Nat.le_antisymm (lin1 (sle b 1)) (lin1 (sca 1 b (lin1 h1)))
theorem zn6 {a b:Nat}(h1:(a+(b+1))<100000): ((a+1)+b)<100000:=lin1 h1
theorem zn12 {a b:Nat}(h1:a≤1000): ((a+1)-b)≤1000000:=lin2 h1 (Nat.sub_le (a+1) b)
theorem zn13 {a c:Nat}{b:Int}(h1:(a:Int)=(b+(c:Int))): (-(c:Int))≤b:=Int.le_of_sub_nonneg (by rw[Int.sub_neg,←h1];exact Int.natCast_nonneg a)
theorem zn14 {a c:Nat}{b:Int}(h1:(a:Int)=(b+(c:Int))): (Int.toNat (b+(c:Int)))=a:=h1▸rfl
theorem zn15 {a:Nat}{b:Int}(h1:(a:Int)=b): (0:Int)≤b:=h1▸Int.natCast_nonneg a
theorem zn16 {a:Nat}{b:Int}(h1:(a:Int)=b): (Int.toNat b)=a:=h1▸rfl
theorem zn17 {a b:Nat}(h1:a<b): ((b+1)-(a+1))<((b+1)-a):=lin2 (sle (b+1) a) (sca (a+1) (b+1) (lin1 h1))
theorem zn28 {a b:Nat}(h1:(a+(b+1))<1000000): ((a+1)+b)<1000000:=lin1 h1
theorem zn29 {a b:Nat}(h1:a<b): b=((b-1)+1):=Nat.le_antisymm (lin1 (sle b 1)) (lin1 (sca 1 b (lin1 h1)))
theorem zn31 {a b c:Nat}(h1:(a≤b)∧(b<(a+((c+1)-a)))): b≤c:=(Nat.le_total a (c+1)).elim (fun e0=>(lin2 h1.2 (sca _ _ e0))) (fun e0=>(lin2 h1.2 (sca a (c+1) (linF3 h1.1 h1.2 (Nat.le_of_eq (Nat.sub_eq_zero_of_le e0))).elim)))
theorem zn33 {b:Nat}{a:Int}(h1:((0:Int)≤a)∧((a≤(1000:Int))∧(b≤1000))): (Int.toNat a)≤1000:=Int.toNat_le.mpr h1.2.1
theorem zn34 {b:Nat}{a:Int}(h1:((0:Int)≤a)∧((a≤(1000:Int))∧(b≤1000))): b≤1000:=h1.2.2
theorem zn35 {b:Nat}{a:Int}(h1:((0:Int)≤a)∧((a≤(100000:Int))∧(b≤100))): (Int.toNat a)≤100000:=Int.toNat_le.mpr h1.2.1
theorem zn36 {a b:Int}(h1:a<b): (0:Int)≤((b-a)-(1:Int)):=Int.sub_nonneg_of_le (Int.sub_pos_of_lt h1)
theorem zn37 {a b:Int}(h1:a>b): (0:Int)≤((a-b)-(1:Int)):=Int.sub_nonneg_of_le (Int.sub_pos_of_lt h1)
theorem zn38 {a b c:Nat}(h1:a=(b+1))(h2:c≤b): c≤a:=lin2 (eqR h1) h2
theorem zn41 {a b:Nat}{c d:Int}(h1:(a:Int)≤(16777216:Int))(h2:(b<a)∧(((-(a:Int))≤c)∧((c<(a:Int))∧((b:Int)=d)))): ((-(16777216:Int))≤c)∧(c<(16777216:Int)):=⟨Int.le_trans (Int.neg_le_neg h1) h2.2.1,Int.lt_of_lt_of_le h2.2.2.1 h1⟩
theorem zn47 {a:Nat}(h1:¬(a<256)): ((¬(a=38))∧(¬(a=124)))∧(¬(a=126)):=⟨⟨fun h9=>(linF2 (Nat.le_of_not_lt h1) (eqL h9)),fun h9=>(linF2 (Nat.le_of_not_lt h1) (eqL h9))⟩,fun h9=>(linF2 (Nat.le_of_not_lt h1) (eqL h9))⟩
theorem zn48 {a:Nat}:((-(1:Int))+((a:Int)+(1:Int)))=(a:Int):=by rw[Int.add_comm,Int.add_neg_cancel_right]
theorem zn49 {a:Nat}:(a:Int)<((a:Int)+(1:Int)):=Int.lt_add_one_of_le (Int.le_refl _)
theorem zn51 {a b:Nat}(h1:a≤b)(h2:¬(a<b)): a=b:=Nat.le_antisymm (lin1 h1) (lin1 (Nat.le_of_not_lt h2))
theorem zn53 {a b:Nat}(h1:a≤5000): (a-b)<100000:=lin2 h1 (Nat.sub_le a b)
theorem zn58 {a b:Nat}:(((a:Int)+(1:Int))+(b:Int))=((a:Int)+((b:Int)+(1:Int))):=by rw[Int.add_assoc,Int.add_comm 1]
theorem zn61 {a b c:Nat}(h1:(a+b)=c)(h2:c≤100000): b≤100000:=lin2 (eqL h1) h2
theorem zn64 {a b c:Nat}(h1:a≤(b+(6*c))): a≤(b+(6*(c+1))):=lin1 h1
theorem zn66 {a b:Nat}(h1:a≤5000)(h2:b≤a): b≤10000:=lin2 h1 h2
theorem zn67 {a b:Nat}(h1:a≤(6*b))(h2:b≤5000): a≤100000:=lin2 h1 (mll 6 h2)
theorem zn70 {a b:Nat}(h1:(0≤a)∧(a<(0+(b+1)))): a≤b:=lin1 h1.2
theorem zn71 {a b:Nat}(h1:a≤b): a<(0+(b+1)):=lin1 h1
theorem zn73 {a:Nat}(h1:a≤1000): (1+a)≤1000000:=lin1 h1
theorem zn74 {a:Nat}(h1:¬(((63:Nat):Int)<(a:Int))): a≤63:=Int.ofNat_le.mp (Int.not_lt.mp h1)
theorem zn75 {a b c d:Nat}(h1:(a+(30*b))≤5000)(h2:c=9900)(h3:d≤4000): (a+d)<c:=lin3 h1 (eqR h2) h3
theorem zn79 {a:Nat}:¬(((a:Int)+(1:Int))=(0:Int)):=fun h=>Nat.succ_ne_zero a (Int.ofNat.inj h)
theorem zn80 {a b c d e:Nat}(h1:(a+b)≤c)(h2:d=a)(h3:e=b): (d+e)≤c:=lin3 h1 (eqL h2) (eqL h3)
theorem zn82 {a:Nat}(h1:a<200): ((a/30)+1)≤300:=zznss (zznlt (Nat.div_le_self a 30) (zznlt (Nat.le_of_lt h1) (by decide)))
theorem zn83 {a:Int}(h1:(0:Int)≤a)(h2:a<(1:Int)): a=(0:Int):=Int.le_antisymm (Int.le_of_lt_add_one (b:=0) h2) h1
theorem zn84 {b:Nat}{a:Int}(h1:((0:Int)≤a)∧((a≤(1000:Int))∧(b≤1000))): ((-(9223372036854775808:Int))≤a)∧(a<(9223372036854775808:Int)):=⟨Int.le_trans (by decide) h1.1,Int.lt_of_le_of_lt h1.2.1 (by decide)⟩
theorem zn86 {c:Nat}{a b:Int}(h1:((a-(1:Int))/b)≥(1000:Int))(h2:((0:Int)≤b)∧((b≤(1000:Int))∧(c≤1000))): ¬((c:Int)>((a-(1:Int))/b)):=Int.not_lt.mpr (Int.le_trans (Int.ofNat_le.mpr h2.2.2) h1)
theorem zn87 {a c:Nat}{b:Int}(h1:(a*(Int.toNat b))≤(1000*1000))(h2:c=16777216): ¬((a*(Int.toNat b))>c):=Nat.not_lt.mpr (zznlt h1 (h2▸(by decide)))
theorem zn88 {b c:Nat}{a:Int}(h1:((0:Int)≤a)∧((a≤(100000:Int))∧(b≤100)))(h2:c=b): c≤100:=zznlt (Nat.le_of_eq h2) h1.2.2
theorem zn90 {b:Nat}{a:Int}(h1:((0:Int)≤a)∧((a≤(100000:Int))∧(b≤100))): ((-(9223372036854775808:Int))≤a)∧(a<(9223372036854775808:Int)):=⟨Int.le_trans (by decide) h1.1,Int.lt_of_le_of_lt h1.2.1 (by decide)⟩
theorem zn92 {b:Nat}{a:Int}(h1:((0:Int)≤a)∧((a≤(100000:Int))∧(b≤100))): b≤100:=h1.2.2
theorem zn93 {b c:Nat}{a:Int}(h1:((Int.toNat a)*b)≤(100000*100))(h2:c=16777216): ((Int.toNat a)*b)≤c:=zznlt h1 (h2▸(by decide))
theorem zn94 {b:Nat}{a:Int}(h1:(0:Int)≤(a+(b:Int))): (-(b:Int))≤a:=Int.le_of_sub_nonneg (by rw[Int.sub_neg];exact h1)
theorem zn95 {a b:Nat}{c d:Int}(h1:(a:Int)≤(16777216:Int))(h2:(b<a)∧(((-(a:Int))≤c)∧((c<(a:Int))∧((b:Int)=d)))): ((-(9223372036854775808:Int))≤c)∧(c<(9223372036854775808:Int)):=⟨Int.le_trans (Int.le_trans (by decide) (Int.neg_le_neg h1)) h2.2.1,Int.lt_of_lt_of_le (Int.lt_of_lt_of_le h2.2.2.1 h1) (by decide)⟩
theorem zn96 {a b:Nat}:(Int.toNat ((a:Int)+((1:Int)*(b:Int))))=(a+b):=by rw[Int.one_mul];rfl
theorem zn97 {a b:Nat}(h1:¬((a:Int)<(b:Int))): (b-a)=0:=Nat.sub_eq_zero_of_le (Int.ofNat_le.mp (Int.not_lt.mp h1))
theorem zn98 {b:Nat}{a:Int}:(max (0:Int) (min (a+(b:Int)) (b:Int)))=(((b-(Int.toNat (-a))):Nat):Int):=by
 rcases Int.le_total 0 a with h | h
 ·rw[Int.toNat_of_nonpos (Int.neg_nonpos_of_nonneg h),Nat.sub_zero,Int.min_eq_right (Int.le_add_of_nonneg_left h),Int.max_eq_right (Int.natCast_nonneg b)]
 ·obtain⟨n,hn⟩:=Int.eq_ofNat_of_zero_le (Int.neg_nonneg_of_nonpos h);rw[hn,Int.toNat_natCast,Int.min_eq_left (Int.add_le_of_le_sub_right (by rw[Int.sub_self];exact h)),←Int.toNat_sub,Int.toNat_eq_max,Int.max_comm,←hn,Int.sub_neg,Int.add_comm]
theorem zn99 {b:Nat}{a:Int}:(max (0:Int) (min a (b:Int)))=(((min (Int.toNat a) b):Nat):Int):=by
 rcases Int.le_total a 0 with h | h
 ·rw[Int.toNat_of_nonpos h,Nat.zero_min,Int.min_eq_left (Int.le_trans h (Int.natCast_nonneg b)),Int.max_eq_left h];rfl
 ·obtain⟨n,rfl⟩:=Int.eq_ofNat_of_zero_le h;rw[Int.toNat_natCast,Int.max_eq_right (Int.le_min.mpr ⟨Int.natCast_nonneg n,Int.natCast_nonneg b⟩)];rcases Nat.le_total n b with q | q
  ·rw[Nat.min_eq_left q,Int.min_eq_left (Int.ofNat_le.mpr q)]
  ·rw[Nat.min_eq_right q,Int.min_eq_right (Int.ofNat_le.mpr q)]
theorem zn100 {a b:Nat}(h1:¬((a:Int)<(b:Int))): 0=(b-a):=(Nat.sub_eq_zero_of_le (Int.ofNat_le.mp (Int.not_lt.mp h1))).symm
theorem zn102 {b:Nat}{a:Int}(h1:((0:Int)≤a)∧(a≤(1114111:Int)))(h2:b=(Int.toNat a)): b<1114112:=by lia
theorem zn103 {a:Int}(h1:a>(0:Int)): (0:Int)≤a:=Int.le_of_lt h1
theorem zn104 {a:Int}(h1:¬(a>(0:Int))): (0:Int)≤(-a):=Int.neg_nonneg_of_nonpos (Int.not_lt.mp h1)
theorem zn105 {a b:Int}(h1:((0:Int)≤a)∧(a<b)): (((Int.toNat a):Nat):Int)=a:=Int.toNat_of_nonneg h1.1
theorem zn106 {a b c d:Nat}(h1:a<b)(h2:b≤c)(h3:d≤a): d≤c:=lin3 h1 h2 h3
theorem zn107 {a b:Nat}{c d:Int}(h1:(a<b)∧(((-(b:Int))≤c)∧((c<(b:Int))∧((a:Int)=d)))): c<(b:Int):=h1.2.2.1
theorem zn108 {a:Int}(h1:((-(16777216:Int))≤a)∧(a<(16777216:Int))): ((-(9223372036854775808:Int))≤a)∧(a<(9223372036854775808:Int)):=⟨Int.le_trans (by decide) h1.1,Int.lt_of_lt_of_le h1.2 (by decide)⟩
theorem zn110 {a b c d:Nat}(h1:(a+b)<(min c d)): (a+b)<c:=lin2 h1 (Nat.min_le_left c d)
theorem zn111 {a b c:Nat}(h1:(a+b)<c): (a≤(a+b))∧((a+b)<(a+((c+1)-a))):=⟨(by simp +arith only),(lin2 h1 (sle (c+1) a))⟩
theorem zn113 {a b c d:Nat}:(((a+b)+c)+d)=(a+((b+c)+d)):=by simp +arith only
theorem zn114 {a b c d:Nat}(h1:(a+(b+c))≤d): ((a+b)+c)≤d:=lin1 h1
theorem zn116 {a b c d:Nat}(h1:(a+b)=c)(h2:d=b): (d+a)=c:=Nat.le_antisymm (lin2 (eqL h1) (eqL h2)) (lin2 (eqR h1) (eqR h2))
theorem zn117 {a b c:Nat}(h1:a=b)(h2:¬(c<b)): a≤c:=lin2 (eqL h1) (Nat.le_of_not_lt h2)
theorem zn118 {a b c:Nat}(h1:((a+(b+1))≤900)∧((c+(30*(b+1)))≤5000)): ((a+1)+b)≤900:=lin1 h1.1
theorem zn119 {a b c:Nat}(h1:((a+(b+1))≤900)∧((c+(30*(b+1)))≤5000)): ((c+3)+(30*b))≤5000:=lin1 h1.2
theorem zn120 {a b c:Nat}(h1:(a+b)≤900)(h2:c≤b): (a+c)≤900:=lin2 h1 h2
theorem zn121 {a b c:Nat}(h1:(a+(30*b))≤5000)(h2:c≤b): (a+(30*c))≤5000:=lin2 h1 (mll 30 h2)
theorem zn122 {a b:Nat}(h1:(a-b)=0)(h2:b≤a): b=a:=Nat.le_antisymm (lin1 h2) (lin2 (eqL h1) (sle a b))
theorem zn123 {a b c:Nat}(h1:(a-b)=(c+1)): b<a:=lin1 (lsub (eqR h1))
theorem zn124 {a b c:Nat}(h1:(a-b)=(c+1)): (a-(b+1))=c:=Nat.le_antisymm (lin3 (eqL h1) (sle a b) (sca (b+1) a (lin1 (lsub (eqR h1))))) (lin2 (sle a (b+1)) (lsub (eqR h1)))
theorem zn125 {a b:Nat}(h1:a<b)(h2:a=(b+1)): False:=linF2 h1 (eqR h2)
theorem zn127 {a:Nat}:a≤(((a+1)+1)+1):=by simp +arith only
theorem zn128 {a b c d:Nat}(h1:((a:Int)=(b:Int))∧((c:Int)=(d:Int))): a=b:=Int.ofNat.inj h1.1
theorem zn129 {a b c d:Nat}(h1:((a:Int)=(b:Int))∧((c:Int)=(d:Int))): c=d:=Int.ofNat.inj h1.2
theorem zn133 {a b:Nat}(h1:0=((a+1)-b)): a≤b:=lin2 (eqR h1) (sle (a+1) b)
theorem zn135 {a b c:Nat}(h1:(a+1)=((b+1)-c)): a=((b+1)-(c+1)):=Nat.le_antisymm (lin2 (sle (b+1) (c+1)) (lsub (eqL h1))) (lin3 (eqR h1) (sle (b+1) c) (sca (c+1) (b+1) (lin1 (lsub (eqL h1)))))
theorem zn136 {a b:Nat}(h1:(a+1)≤b): (b-a)=((b-(a+1))+1):=Nat.le_antisymm (lin2 (sle b (a+1)) (sca a b (lin1 h1))) (lin2 (sle b a) (sca (a+1) b (lin1 h1)))
theorem zn137 {a b:Nat}(h1:(a-b)=((a-(b+1))+1)): b≤a:=lin1 (lsub (eqR h1))
theorem zn138 {a b c:Nat}(h1:(a+1)<(b-c)): a<(b-(c+1)):=lin2 (sle b (c+1)) (lsub h1)
theorem zn139 {a b:Nat}(h1:a<b): (a≤b)∧(¬((b-a)=0)):=⟨(lin1 h1),fun h9=>(linF3 h1 (sle b a) (eqL h9))⟩
theorem zn140 {a b:Nat}(h1:a<b): ¬(a≥b):=Nat.not_le_of_lt h1
theorem zn141 {a:Nat}(h1:(a+1)<a): False:=linF1 h1
theorem zn142 {a:Nat}(h1:((a:Int)<(0:Int))∨(((a:Int)+(1:Int))<(0:Int))): False:=h1.elim (fun h=>absurd h (Int.not_lt.mpr (Int.natCast_nonneg _))) (fun h=>absurd h (Int.not_lt.mpr (Int.natCast_nonneg (a+1))))
theorem zn143 {a b:Nat}(h1:a≤b): (a+((b-a)+1))=(b+1):=Nat.le_antisymm (lin1 (sca a b (lin1 h1))) (lin1 (sle b a))
theorem zn145 {a b:Nat}(h1:a≤(2*b))(h2:b≤100000): a≤1000000:=lin2 h1 (mll 2 h2)
theorem zn146 {a b c d:Nat}(h1:a<b)(h2:b≤100000)(h3:c=d)(h4:d≤((2*a)+1)): c≤1000000:=lin4 (mll 2 h1) (mll 2 h2) (eqL h3) h4
theorem zn147 {a b c d:Nat}(h1:a<b)(h2:c=(b-d))(h3:d≤a): (b-(a+1))<c:=lin4 (eqR h2) h3 (sle b d) (sca (a+1) b (lin1 h1))
theorem zn149 {a b c:Nat}(h1:a≤100000): (min (b-c) (a-c))≤16777216:=lin3 h1 (Nat.min_le_right (b-c) (a-c)) (Nat.sub_le a c)
theorem zn153 {a b:Nat}(h1:(a+(30*(b+1)))≤5000): (a+(30*b))≤5000:=lin1 h1
theorem zn154 {a b:Nat}(h1:a≤(2*b))(h2:b≤100000): a≤16777216:=lin2 h1 (mll 2 h2)
theorem zn155 {b c:Nat}{a:Int}(h1:(0:Int)≤a)(h2:(Int.toNat a)=b)(h3:c=b): a=(c:Int):=by rw[h3,←h2,Int.toNat_of_nonneg h1]
theorem zn156 {b c:Nat}{a:Int}(h1:(Int.toNat a)=b)(h2:¬(c=b)): ¬(a=(c:Int)):=fun e=>h2 (by rw[←h1,e];rfl)
theorem zn157 {a b:Nat}(h1:a=300)(h2:b≤100): ((1+a)+(b+1))≤900:=lin2 (eqL h1) h2
theorem zn158 {a:Nat}(h1:a≤100): (4+(30*(a+1)))≤5000:=lin1 (mll 30 h1)
theorem zn159 {a b:Nat}(h1:a=16777216)(h2:b≤63): b≤a:=lin2 (eqR h1) h2
theorem zn160 {a b c d e f:Nat}(h1:(a+(b+c))=d)(h2:(e+d)≤f): ((e+a)+b)≤f:=lin2 (eqL h1) h2
theorem zn162 {a b c:Nat}(h1:¬(a≤b)): b≤(((min a b)-(min c b))+c):=(Nat.le_total b a).elim (fun e0=>(lin3 (sle (min a b) (min c b)) (Nat.min_le_left c b) (Nat.le_of_eq (Nat.min_eq_right e0).symm))) (fun e0=>(lin4 (Nat.lt_of_not_le h1) (sle (min a b) (min c b)) (Nat.min_le_left c b) (Nat.le_of_eq (Nat.min_eq_left e0).symm)))
theorem zn163 {a b c:Nat}(h1:¬(a≤b)): b≤((a-c)+c):=lin2 (Nat.lt_of_not_le h1) (sle a c)
theorem zn164 {a b:Nat}:a≤((a-(min b a))+b):=lin2 (sle a (min b a)) (Nat.min_le_left b a)
theorem zn166 {a b c:Nat}(h1:(a-b)<(c+1))(h2:b<a): (a-(b+1))<c:=lin3 h1 (sle a b) (sca (b+1) a (lin1 h2))
theorem zn167 {a b:Nat}(h1:a≤b): (min a b)=a:=(Nat.le_total b a).elim (fun e0=>(Nat.le_antisymm (lin1 (Nat.min_le_left a b)) (lin2 h1 (Nat.le_of_eq (Nat.min_eq_right e0).symm)))) (fun e0=>(Nat.le_antisymm (lin1 (Nat.min_le_left a b)) (lin1 (Nat.le_of_eq (Nat.min_eq_left e0).symm))))
theorem zn168 {a b c d:Nat}(h1:(a+b)<c)(h2:(c-a)<(d+1)): (c-((a+b)+3))<d:=(Nat.le_total ((a+b)+3) c).elim (fun e0=>(lin3 h2 (sle c a) (sca _ _ e0))) (fun e0=>(lin4 h1 h2 (sle c a) (Nat.le_of_eq (Nat.sub_eq_zero_of_le e0))))
theorem zn169 {a b c d:Nat}(h1:(a+(b-c))≤6000)(h2:(c+d)<b): ((a+1)+(b-((c+d)+3)))≤6000:=(Nat.le_total ((c+d)+3) b).elim (fun e0=>(lin3 h1 (sle b c) (sca _ _ e0))) (fun e0=>(lin4 h1 h2 (sle b c) (Nat.le_of_eq (Nat.sub_eq_zero_of_le e0))))
theorem zn171 {a b:Nat}:¬((((a+b):Nat):Int)<(0:Int)):=Int.not_lt.mpr (Int.natCast_nonneg _)
theorem zn172 {a b c d:Nat}(h1:(a+(b-c))≤6000)(h2:d=16777216): a<d:=lin2 h1 (eqR h2)
theorem zn173 {a b:Nat}(h1:((a-1)=0)∧((b-1)=0))(h2:2≤a): False:=linF3 (eqL h1.1) h2 (sle a 1)
theorem zn174 {a b:Nat}:(((a:Int)+(1:Int))-((b:Int)+(1:Int)))=((a:Int)-(b:Int)):=Int.add_sub_add_right _ _ _
theorem zn175 {a b:Nat}:((a:Int)+((b:Int)*(-(1:Int))))=((a:Int)-(b:Int)):=by rw[Int.mul_neg,Int.mul_one,Int.sub_eq_add_neg]
theorem zn176 {a b:Nat}(h1:(a+(b+1))≤1000000): ((a-1)+b)≤1000000:=lin2 h1 (Nat.sub_le a 1)
theorem zn177 {a:Nat}:¬((a+1)<a):=Nat.not_lt.mpr (by simp +arith only)
theorem zn178 {a:Nat}:((a+1)-a)=1:=Nat.le_antisymm (lin1 (sca a (a+1) (by simp +arith only))) (lin1 (sle (a+1) a))
theorem zn179 {a b c d e f:Nat}(h1:(a+1)≤b)(h2:(c+d)≤e): (((f-1)+((c-1)+d))≤(f+e))∧(a≤b):=⟨(lin3 h2 (Nat.sub_le f 1) (Nat.sub_le c 1)),(lin1 h1)⟩
theorem zn181 {a b c d e:Nat}(h1:(a+(b+c))≤10000)(h2:(d+e)≤c): (b+d)≤1000000:=lin2 h1 h2
theorem zn184 {a b:Nat}:(((a+b)+3)-((a+b)+1))=2:=Nat.le_antisymm (lin1 (sca ((a+b)+1) ((a+b)+3) (by simp +arith only))) (lin1 (sle ((a+b)+3) ((a+b)+1)))
theorem zn185 {a b c d e f g:Nat}(h1:((a+b)+(c-d))≤(c-((e+f)+1)))(h2:(g+1)≤e)(h3:f<(c-e)): (((((e+f)-g)+a)+(b+1))+(c-d))≤(c-g):=lin4 h1 (sle c g) (sca ((e+f)+1) c (lin1 (lsub h3))) (sca g (e+f) (lin1 h2))
theorem zn186 {a b c:Nat}:(((a+b)+c)+1)=(a+((b+c)+1)):=by simp +arith only
theorem zn187 {a b c:Nat}:(((a+b)+c)+3)=(a+((b+c)+3)):=by simp +arith only
theorem zn189 {a b c:Nat}:(((a+b)+c)-a)=(b+c):=Nat.le_antisymm (lin1 (sca a ((a+b)+c) (by simp +arith only))) (lin1 (sle ((a+b)+c) a))
theorem zn190 {a b:Nat}(h1:(a+1)≤b)(h2:(b-a)=0): False:=linF3 h1 (eqL h2) (sle b a)
theorem zn191 {a b c:Nat}(h1:a<b)(h2:b≤c): ¬(c=a):=fun h9=>(linF3 h1 h2 (eqL h9))
theorem zn192 {a b c d e f:Nat}(h1:(((a+b)+(c+1))+(d-e))≤(d-f)): ((a+(b+1))+(c+1))≤((d-f)+2):=lin1 h1
theorem zn193 {a b c d e:Nat}(h1:((a+b)+(c-d))≤(c-e)): ((a+(c-d))+(b+1))≤((c-e)+2):=lin1 h1
theorem zn194 {a b c:Nat}(h1:a≤(2*b))(h2:b≤(2*c)): a≤(4*c):=lin2 h1 (mll 2 h2)
theorem zn195 {a b:Nat}(h1:a≤(2*b))(h2:b≤20000): a≤100000:=lin2 h1 (mll 2 h2)
theorem zn197 {a b c d e:Nat}(h1:a≤((4*b)+c))(h2:d≤(4*e)): ((d+1)+a)≤((4*(e+b))+(c+1)):=lin2 h1 h2
theorem zn199 {a b c:Nat}(h1:a≤((4*b)+c))(h2:b≤20000)(h3:c≤20000): a≤1000000:=lin3 h1 (mll 4 h2) h3
theorem zn200 {a b c d e f:Nat}(h1:(a+b)≤((c-0)+2))(h2:(d≤a)∧(e≤b))(h3:c≤5000)(h4:f≤((4*d)+e)): f≤40000:=lin4 (Nat.add_le_add (Nat.mul_le_mul_left 4 h1) (Nat.mul_le_mul_left 4 h2.1)) (Nat.add_le_add h2.2 (Nat.mul_le_mul_left 4 (Nat.sub_le c 0))) (Nat.mul_le_mul_left 4 h3) h4 (by simp +arith only)
theorem zn201 {a b:Nat}(h1:a≤(2*b))(h2:b≤5000): a≤40000:=lin2 h1 (mll 2 h2)
theorem zn202 {a b c d:Nat}(h1:a≤5000)(h2:b≤a): (b-(c+d))<100000:=lin3 h1 h2 (Nat.sub_le b (c+d))
theorem zn203 {a b c d:Nat}(h1:a≤5000)(h2:b≤a): b≤(6000+(c+d)):=lin2 h1 h2
theorem zn204 {a b c d e f:Nat}(h1:((a+(b+1))+(c+1))≤((d-e)+2))(h2:d≤f)(h3:f≤5000): b≤999999:=lin4 h1 h2 h3 (Nat.sub_le d e)
theorem zn205 {a b c d e f g:Nat}(h1:((a+b)+(c+1))≤((d-e)+2))(h2:d≤f)(h3:f≤5000)(h4:g=16777216): c<g:=lin4 (Nat.add_le_add h1 h2) h3 (eqR h4) (Nat.sub_le d e)
theorem zn206 {a b c d e:Nat}(h1:(a+b)≤((c-d)+2))(h2:c≤e)(h3:e≤5000): a≤10000:=lin4 h1 h2 h3 (Nat.sub_le c d)
theorem zn207 {a b c d e:Nat}(h1:(a+b)≤((c-d)+2))(h2:c≤e)(h3:e≤5000): b≤100001:=lin4 h1 h2 h3 (Nat.sub_le c d)
theorem zn208 {a b c d e f g:Nat}(h1:(a+b)≤((c-d)+2))(h2:(e≤a)∧(f≤b))(h3:c≤g)(h4:g≤5000): e≤20000:=lin4 (Nat.add_le_add h1 h2.1) h3 h4 (Nat.sub_le c d)
theorem zn209 {a b c d e f g:Nat}(h1:(a+b)≤((c-d)+2))(h2:(e≤a)∧(f≤b))(h3:c≤g)(h4:g≤5000): f≤20000:=lin4 (Nat.add_le_add h1 h2.2) h3 h4 (Nat.sub_le c d)
theorem zn212 {a:Nat}(h1:a≤80000): (1+a)≤1000000:=lin1 h1
theorem zn214 {a:Nat}(h1:a≤80000): (1+(a+1))≤1000000:=lin1 h1
theorem zn216 {a b c:Nat}(h1:(a+1)≤b)(h2:b≤c)(h3:c=(a+1)): b=(a+1):=Nat.le_antisymm (lin2 h2 (eqL h3)) (lin1 h1)
theorem zn217 {a b:Nat}(h1:((a+1)+1)=b)(h2:b=(a+1)): False:=linF2 (eqL h1) (eqL h2)
theorem zn218 {a b c:Nat}(h1:a=(b+1)): (b+1)<(a+(c+1)):=lin1 (eqR h1)
theorem zn219 {a b c d:Nat}(h1:(a+1)≤b)(h2:b≤c)(h3:¬(c=(a+1))): (a+1)<(c+d):=zznlv (Nat.lt_of_le_of_ne (zznlt h1 h2) (Ne.symm h3)) (zznar _ _)
theorem zn220 {a b c d e f:Nat}(h1:((a+1)≤b)∧(b≤c))(h2:(b≤d)∧(d≤c))(h3:(d+e)<c)(h4:(e+(d-(a+1)))=f): ((a+1)+f)≤c:=lin3 h3 (eqR h4) (sca (a+1) d (lin2 h1.1 h2.1))
theorem zn221 {a b c d:Nat}(h1:(a+(b-(c+1)))=d)(h2:(c+1)<(b+a)): (c+1)<((c+1)+d):=lin3 (eqL h1) h2 (sle b (c+1))
theorem zn222 {a b c d e f:Nat}(h1:((a+1)≤b)∧(b≤c))(h2:(b≤d)∧(d≤c))(h3:(d+e)<c)(h4:(e+(d-(a+1)))=f): ¬(c≤((a+1)+f)):=Nat.not_le.mpr (lin3 h3 (eqR h4) (sca (a+1) d (lin2 h1.1 h2.1)))
theorem zn224 {a b c d:Nat}(h1:(a-b)<(c+1))(h2:b<d)(h3:d≤a): (a-d)<c:=lin4 h1 h2 (sle a b) (sca d a (lin1 h3))
theorem zn226 {a:Int}(h1:(0:Int)≤a): a=(((Int.toNat a):Nat):Int):=(Int.toNat_of_nonneg h1).symm
theorem zn234 {a:Nat}(h1:2<(a+1)): 0<a:=lin1 h1
theorem zn242 {a b c d:Nat}(h1:a≤((b+1)+c))(h2:c≤d): a≤(b+(d+1)):=lin2 h1 h2
theorem zn244 {a:Nat}(h1:a≠0): (a:Int)≠(0:Int):=fun h=>h1 (Int.ofNat.inj h)
theorem zn245 {a b c d:Nat}(h1:(a+b)=c): ((d+a)+b)=(d+c):=Nat.le_antisymm (lin1 (eqL h1)) (lin1 (eqR h1))
theorem zn249 {a b c:Nat}(h1:(a+b)=c)(h2:c≤100000): a≤1000000:=lin2 (eqL h1) h2
theorem zn250 {a b c:Nat}(h1:(a+b)=c)(h2:c≤100000): a≤100000:=lin2 (eqL h1) h2
theorem zn251 {a b c d:Nat}(h1:a<b)(h2:b≤((a+1)+c))(h3:c≤d)(h4:d=(b-(a+1))): ((a+1)+c)=b:=Nat.le_antisymm (lin3 h3 (eqL h4) (sca (a+1) b (lin1 h1))) (lin1 h2)
theorem zn252 {a:Nat}(h1:a≤100000): (a+1)<1000000:=lin1 h1
theorem zn253 {a b:Nat}(h1:a=b): (2+a)≤(b+8):=lin1 (eqL h1)
theorem zn255 {a b c:Nat}(h1:(a+b)=c)(h2:c≤100000): a≤999993:=lin2 (eqL h1) h2
theorem zn256 {a b c:Nat}(h1:(a+b)=c): ((((((((a+1)+1)+1)+1)+1)+1)+1)+b)≤(c+8):=lin1 (eqL h1)
theorem zn259 {a b:Nat}(h1:(a+(2*(b+1)))≤90000): a≤100000:=lin1 h1
theorem zn261 {a b c d:Nat}(h1:(a+1)<(b+1))(h2:c=(a-d)): c<b:=lin3 h1 (eqL h2) (Nat.sub_le a d)
theorem zn262 {a b c d:Nat}(h1:1≤a)(h2:a≤b)(h3:b=(c-(d+1))): ((d+1)+a)≤c:=zznlt (Nat.add_le_add_left (zznlt h2 (Nat.le_of_eq h3)) _) (Nat.le_of_eq (Nat.add_sub_cancel' (Nat.le_of_lt (Nat.lt_of_sub_pos (zznlv h1 (zznlt h2 (Nat.le_of_eq h3)))))))
theorem zn263 {a b c:Nat}(h1:(a+1)≤10000)(h2:b=(a-c)): b≤10000:=lin3 h1 (eqL h2) (Nat.sub_le a c)
theorem zn264 {a b c d:Nat}(h1:(a+(2*(b+1)))≤90000)(h2:c≤2): ((a+c)+(2*(b-d)))≤90000:=lin3 h1 h2 (mll 2 (Nat.sub_le b d))
theorem zn265 {a b c d e f g:Nat}(h1:(a+b)≤(c+8))(h2:d=(e-f))(h3:g≤(b+(8*d))): (a+g)≤(c+(8*(e+1))):=lin4 h1 (mll 8 (eqL h2)) h3 (mll 8 (Nat.sub_le e f))
theorem zn266 {a b:Nat}(h1:a≤10000): (a-b)<100000:=lin2 h1 (Nat.sub_le a b)
theorem zn267 {a b:Nat}(h1:a≤b): (0+a)≤b:=lin1 h1
theorem zn269 {a b:Nat}(h1:a≤10000)(h2:b≤a): (b+(2*(a-b)))≤90000:=lin2 (mll 2 h1) (mll 2 (sca b a (lin1 h2)))
theorem zn270 {a b c d e f:Nat}(h1:a≤10000)(h2:b≤100000)(h3:(c+d)=b)(h4:e≤(d+(8*f)))(h5:f≤a): (c+e)≤500000:=lin4 (Nat.add_le_add (Nat.mul_le_mul_left 8 h5) h2) (Nat.mul_le_mul_left 8 h1) (Nat.le_of_eq h3) h4 (by simp +arith only)
theorem zn277 {a b c:Nat}(h1:a≤((b+1)+4))(h2:b≤(5*(c-1))): a≤((5*c)+5):=lin3 h1 h2 (mll 5 (Nat.sub_le c 1))
theorem zn278 {a b c:Nat}(h1:a≤(5*b))(h2:c≤(a+4)): c≤((5*b)+5):=lin2 h1 h2
theorem zn279 {a b c:Nat}(h1:(a+b)=c)(h2:b≥1): 1≤c:=lin2 (eqL h1) h2
theorem zn280 {a b:Nat}(h1:(min a b)=0)(h2:1≤a)(h3:a<b): False:=(Nat.le_total b a).elim (fun e0=>(linF2 h3 e0)) (fun e0=>(linF3 (eqL h1) h2 (Nat.le_of_eq (Nat.min_eq_left e0).symm)))
theorem zn281 {a b c:Nat}(h1:(a+1)≤(b+1))(h2:c≤a): c≤b:=lin2 h1 h2
theorem zn282 {a b c:Nat}(h1:(a+(6*b))≤(6*(c+1)))(h2:(c+1)≤5000): b≤5000:=Nat.le_of_mul_le_mul_left (lin2 h1 (Nat.mul_le_mul_left 6 h2) (by simp +arith only):6*b≤6*5000) (by decide)
theorem zn283 {a b c d e:Nat}(h1:(a+(6*b))≤(6*(c+1)))(h2:d≤((e+a)+(6*b))): d≤(e+(6*(c+1))):=lin2 h1 h2
theorem zn284 {a b:Nat}(h1:a≤5): (a+(6*b))≤(6*(b+1)):=lin1 h1
theorem zn285 {a b:Nat}(h1:(a+1)≤5000): (min b a)≤5000:=lin2 h1 (Nat.min_le_right b a)
theorem zn286 {a b c d:Nat}(h1:a<b)(h2:c≤((5*d)+5))(h3:d≤a): (c+(6*(b-(a+1))))≤(6*(b+1)):=lin3 h2 (mll 5 h3) (mll 6 (sca (a+1) b (lin1 h1)))
theorem zn287 {a:Nat}:(2+(6*a))≤(6*(a+1)):=by simp +arith only
theorem zn288 {a b:Nat}(h1:a≤2): (a+(6*b))≤(6*(b+1)):=lin1 h1
theorem zn289 {a b:Nat}:((a+(b+1))-(a+1))=b:=Nat.le_antisymm (lin1 (sca (a+1) (a+(b+1)) (by simp +arith only))) (lin1 (sle (a+(b+1)) (a+1)))
theorem zn292 {a:Nat}(h1:a≤90000): (a:Int)≤(100000:Int):=Int.ofNat_le.mpr (zznlt h1 (by decide))
theorem zn294 {a b c d:Nat}(h1:((a+b)+c)≤d): (((a+1)+b)+c)≤(d+1):=lin1 h1
theorem zn295 {a b c d:Nat}(h1:((a+b)+c)≤d): ((0+(a+b))+(c+1))≤(d+1):=lin1 h1
theorem zn297 {a b c d:Nat}(h1:a≤((3*b)+c)): (((d+(a+1))+1)+1)≤((3*(b+1))+(d+c)):=lin1 h1
theorem zn298 {a:Nat}:((a+7)-(a+4))=3:=Nat.le_antisymm (lin1 (sca (a+4) (a+7) (by simp +arith only))) (lin1 (sle (a+7) (a+4)))
theorem zn299 {a b c d:Nat}:(a+(b+((c+d)+1)))=((((a+b)+1)+c)+d):=by simp +arith only
theorem zn300 {a b:Nat}:(((a+1)+b)+1)=(a+((b+1)+1)):=by simp +arith only
theorem zn301 {a b:Nat}:((((a+1)+1)+b)+1)=(a+(((b+1)+1)+1)):=by simp +arith only
theorem zn302 {a b:Nat}(h1:a≤b): (a+1)≤(((b+1)+1)+1):=lin1 h1
theorem zn303 {a:Nat}(h1:(a+1)≤1000): (2+a)≤2000:=lin1 h1
theorem zn304 {a:Nat}(h1:(a+1)≤1000): (0+a)≤2000:=lin1 h1
theorem zn306 {a:Nat}(h1:a≤1000): (a-1)≤1000:=lin2 h1 (Nat.sub_le a 1)
theorem zn307 {a b c:Nat}(h1:a<(b-c)): c≤b:=lin1 (lsub h1)
theorem zn308 {a b:Nat}:((a+b)+1)=(b+(a+1)):=by simp +arith only
theorem zn309 {a b:Nat}(h1:a≤b): a≤(min a b):=(Nat.le_total b a).elim (fun e0=>(lin2 h1 (Nat.le_of_eq (Nat.min_eq_right e0).symm))) (fun e0=>(lin1 (Nat.le_of_eq (Nat.min_eq_left e0).symm)))
theorem zn310 {a b c:Nat}(h1:(a-(b+1))=c)(h2:b<a): ((b+1)+c)=a:=Nat.le_antisymm (lin2 (eqR h1) (sca (b+1) a (lin1 h2))) (lin2 (eqL h1) (sle a (b+1)))
theorem zn313 {a b c:Nat}(h1:(a+1)<(b+1))(h2:c≤a): c<b:=lin2 h1 h2
theorem zn314 {a b c d:Nat}(h1:(a+(2*(b+1)))<1000000)(h2:c≤(a+2))(h3:d≤b): (c+(2*d))<1000000:=lin3 h1 h2 (mll 2 h3)
theorem zn315 {a b:Nat}(h1:((a+1)+1)=b): ¬((a+2)<b):=Nat.not_lt.mpr (lin1 (eqR h1))
theorem zn316 {a b c:Nat}(h1:(a-b)=(c+1)): c≤a:=lin1 (lsub (eqR h1))
theorem zn318 {a b:Nat}:0<((a+1)+b):=by simp +arith only
theorem zn322 {a b:Nat}(h1:a<b): (a-1)<b:=lin2 h1 (Nat.sub_le a 1)
theorem zn323 {a b:Nat}(h1:a≤1000)(h2:b≤a): b≤100000:=lin2 h1 h2
theorem zn325 {a b c:Nat}(h1:((a+1)+b)≤c): (a+(b+1))≤c:=lin1 h1
theorem zn326 {a b c:Nat}(h1:(a≤b)∧(b≤c)): b<(a+((c+1)-a)):=lin2 h1.2 (sle (c+1) a)
theorem zn327 {a b c d:Nat}(h1:(a+b)≤c): a<(d+((c+1)-d)):=lin2 h1 (sle (c+1) d)
theorem zn328 {c:Nat}{a b:Int}(h1:(0:Int)≤a)(h2:a<b)(h3:b=(c:Int)): (Int.toNat a)<c:=(Int.toNat_lt h1).mpr (h3▸h2)
theorem zn329 {a:Nat}:(a-(a-1))≤1:=lin2 (sle a 1) (sca (a-1) a (lin1 (Nat.sub_le a 1)))
theorem zn334 {a b c:Nat}(h1:(a+(5*(b+1)))≤1000)(h2:c≤5): ((a+c)+(5*b))≤1000:=lin2 h1 h2
theorem zn335 {a b c:Nat}(h1:(a+(b+1))≤1000)(h2:c≤1): ((a+c)+b)≤1000:=lin2 h1 h2
theorem zn336 {a b c d:Nat}(h1:a≤((b+c)+(5*d)))(h2:c≤5): a≤(b+(5*(d+1))):=lin2 h1 h2
theorem zn337 {a b c d:Nat}(h1:a≤((b+c)+d))(h2:c≤1): a≤(b+(d+1)):=lin2 h1 h2
theorem zn338 {a:Nat}(h1:¬(2<a)): (a+4)≤20:=lin1 (Nat.le_of_not_lt h1)
theorem zn339 {a:Nat}(h1:¬(2<a)): a≤999996:=lin1 (Nat.le_of_not_lt h1)
theorem zn340 {a:Nat}(h1:a≤20): (5*a)≤1000:=lin1 (mll 5 h1)
theorem zn342 {a b:Nat}(h1:a≤(5*b))(h2:b≤20): a≤100:=lin2 h1 (mll 5 h2)
theorem zn346 {a:Nat}(h1:a≤1000): ((a:Nat):Int)≤(100000:Int):=by lia
theorem zn347 {a b c d e f g h i:Nat}(h1:a≤100)(h2:b≤a)(h3:((c+d)+e)≤b)(h4:f≤((3*g)+h))(h5:i=c)(h6:g=e)(h7:h=d): (i+f)≤400:=by lia
theorem zn348 {a b c d e f:Nat}(h1:((a+b)+c)≤d)(h2:d≤e)(h3:e≤100)(h4:f=c): (f-1)≤90000:=lin4 (Nat.add_le_add h1 h2) h3 (eqL h4) (Nat.sub_le f 1)
theorem zn351 {a b:Nat}(h1:a≤20): (a-b)≤900:=lin2 h1 (Nat.sub_le a b)
theorem ze02 {p0 p1 G:Prop}(h:p0∧p1)(k:p0→p1→G):G:=by
 obtain⟨h0,h1⟩:=h;exact k h0 h1
theorem ze03 {p0 p1 p2 G:Prop}(h:p0∧p1∧p2)(k:p0→p1→p2→G):G:=by
 obtain⟨h0,h1,h2⟩:=h;exact k h0 h1 h2
theorem ze04 {p0 p1 p2 p3 G:Prop}(h:p0∧p1∧p2∧p3)(k:p0→p1→p2→p3→G):G:=by
 obtain⟨h0,h1,h2,h3⟩:=h;exact k h0 h1 h2 h3
theorem ze11.{u0}{α0:Sort u0}{p0:α0→Prop}{G:Prop}(h:∃ a,p0 a)(k:∀ a,p0 a→G):G:=by
 obtain⟨a,h0⟩:=h;exact k a h0
theorem ze12.{u0}{α0:Sort u0}{p0 p1:α0→Prop}{G:Prop}(h:∃ a,p0 a∧p1 a)(k:∀ a,p0 a→p1 a→G):G:=by
 obtain⟨a,h0,h1⟩:=h;exact k a h0 h1
theorem ze13.{u0}{α0:Sort u0}{p0 p1 p2:α0→Prop}{G:Prop}(h:∃ a,p0 a∧p1 a∧p2 a)(k:∀ a,p0 a→p1 a→p2 a→G):G:=by
 obtain⟨a,h0,h1,h2⟩:=h;exact k a h0 h1 h2
theorem ze14.{u0}{α0:Sort u0}{p0 p1 p2 p3:α0→Prop}{G:Prop}(h:∃ a,p0 a∧p1 a∧p2 a∧p3 a)(k:∀ a,p0 a→p1 a→p2 a→p3 a→G):G:=by
 obtain⟨a,h0,h1,h2,h3⟩:=h;exact k a h0 h1 h2 h3
theorem ze21.{u0,u1}{α0:Sort u0}{α1:Sort u1}{p0:α0→α1→Prop}{G:Prop}(h:∃ a b,p0 a b)(k:∀ a b,p0 a b→G):G:=by
 obtain⟨a,b,h0⟩:=h;exact k a b h0
theorem ze22.{u0,u1}{α0:Sort u0}{α1:Sort u1}{p0 p1:α0→α1→Prop}{G:Prop}(h:∃ a b,p0 a b∧p1 a b)(k:∀ a b,p0 a b→p1 a b→G):G:=by
 obtain⟨a,b,h0,h1⟩:=h;exact k a b h0 h1
theorem ze23.{u0,u1}{α0:Sort u0}{α1:Sort u1}{p0 p1 p2:α0→α1→Prop}{G:Prop}(h:∃ a b,p0 a b∧p1 a b∧p2 a b)(k:∀ a b,p0 a b→p1 a b→p2 a b→G):G:=by
 obtain⟨a,b,h0,h1,h2⟩:=h;exact k a b h0 h1 h2
theorem ze24.{u0,u1}{α0:Sort u0}{α1:Sort u1}{p0 p1 p2 p3:α0→α1→Prop}{G:Prop}(h:∃ a b,p0 a b∧p1 a b∧p2 a b∧p3 a b)(k:∀ a b,p0 a b→p1 a b→p2 a b→p3 a b→G):G:=by
 obtain⟨a,b,h0,h1,h2,h3⟩:=h;exact k a b h0 h1 h2 h3
theorem ze25.{u0,u1}{α0:Sort u0}{α1:Sort u1}{p0 p1 p2 p3 p4:α0→α1→Prop}{G:Prop}(h:∃ a b,p0 a b∧p1 a b∧p2 a b∧p3 a b∧p4 a b)(k:∀ a b,p0 a b→p1 a b→p2 a b→p3 a b→p4 a b→G):G:=by
 obtain⟨a,b,h0,h1,h2,h3,h4⟩:=h;exact k a b h0 h1 h2 h3 h4
theorem ze26.{u0,u1}{α0:Sort u0}{α1:Sort u1}{p0 p1 p2 p3 p4 p5:α0→α1→Prop}{G:Prop}(h:∃ a b,p0 a b∧p1 a b∧p2 a b∧p3 a b∧p4 a b∧p5 a b)(k:∀ a b,p0 a b→p1 a b→p2 a b→p3 a b→p4 a b→p5 a b→G):G:=by
 obtain⟨a,b,h0,h1,h2,h3,h4,h5⟩:=h;exact k a b h0 h1 h2 h3 h4 h5
theorem ze31.{u0,u1,u2}{α0:Sort u0}{α1:Sort u1}{α2:Sort u2}{p0:α0→α1→α2→Prop}{G:Prop}(h:∃ a b c,p0 a b c)(k:∀ a b c,p0 a b c→G):G:=by
 obtain⟨a,b,c,h0⟩:=h;exact k a b c h0
theorem ze32.{u0,u1,u2}{α0:Sort u0}{α1:Sort u1}{α2:Sort u2}{p0 p1:α0→α1→α2→Prop}{G:Prop}(h:∃ a b c,p0 a b c∧p1 a b c)(k:∀ a b c,p0 a b c→p1 a b c→G):G:=by
 obtain⟨a,b,c,h0,h1⟩:=h;exact k a b c h0 h1
theorem ze33.{u0,u1,u2}{α0:Sort u0}{α1:Sort u1}{α2:Sort u2}{p0 p1 p2:α0→α1→α2→Prop}{G:Prop}(h:∃ a b c,p0 a b c∧p1 a b c∧p2 a b c)(k:∀ a b c,p0 a b c→p1 a b c→p2 a b c→G):G:=by
 obtain⟨a,b,c,h0,h1,h2⟩:=h;exact k a b c h0 h1 h2
theorem ze34.{u0,u1,u2}{α0:Sort u0}{α1:Sort u1}{α2:Sort u2}{p0 p1 p2 p3:α0→α1→α2→Prop}{G:Prop}(h:∃ a b c,p0 a b c∧p1 a b c∧p2 a b c∧p3 a b c)(k:∀ a b c,p0 a b c→p1 a b c→p2 a b c→p3 a b c→G):G:=by
 obtain⟨a,b,c,h0,h1,h2,h3⟩:=h;exact k a b c h0 h1 h2 h3
theorem ze35.{u0,u1,u2}{α0:Sort u0}{α1:Sort u1}{α2:Sort u2}{p0 p1 p2 p3 p4:α0→α1→α2→Prop}{G:Prop}(h:∃ a b c,p0 a b c∧p1 a b c∧p2 a b c∧p3 a b c∧p4 a b c)(k:∀ a b c,p0 a b c→p1 a b c→p2 a b c→p3 a b c→p4 a b c→G):G:=by
 obtain⟨a,b,c,h0,h1,h2,h3,h4⟩:=h;exact k a b c h0 h1 h2 h3 h4
theorem ze38.{u0,u1,u2}{α0:Sort u0}{α1:Sort u1}{α2:Sort u2}{p0 p1 p2 p3 p4 p5 p6 p7:α0→α1→α2→Prop}{G:Prop}(h:∃ a b c,p0 a b c∧p1 a b c∧p2 a b c∧p3 a b c∧p4 a b c∧p5 a b c∧p6 a b c∧p7 a b c)(k:∀ a b c,p0 a b c→p1 a b c→p2 a b c→p3 a b c→p4 a b c→p5 a b c→p6 a b c→p7 a b c→G):G:=by
 obtain⟨a,b,c,h0,h1,h2,h3,h4,h5,h6,h7⟩:=h;exact k a b c h0 h1 h2 h3 h4 h5 h6 h7
theorem ze41.{u0,u1,u2,u3}{α0:Sort u0}{α1:Sort u1}{α2:Sort u2}{α3:Sort u3}{p0:α0→α1→α2→α3→Prop}{G:Prop}(h:∃ a b c d,p0 a b c d)(k:∀ a b c d,p0 a b c d→G):G:=by
 obtain⟨a,b,c,d,h0⟩:=h;exact k a b c d h0
theorem ze42.{u0,u1,u2,u3}{α0:Sort u0}{α1:Sort u1}{α2:Sort u2}{α3:Sort u3}{p0 p1:α0→α1→α2→α3→Prop}{G:Prop}(h:∃ a b c d,p0 a b c d∧p1 a b c d)(k:∀ a b c d,p0 a b c d→p1 a b c d→G):G:=by
 obtain⟨a,b,c,d,h0,h1⟩:=h;exact k a b c d h0 h1
theorem ze43.{u0,u1,u2,u3}{α0:Sort u0}{α1:Sort u1}{α2:Sort u2}{α3:Sort u3}{p0 p1 p2:α0→α1→α2→α3→Prop}{G:Prop}(h:∃ a b c d,p0 a b c d∧p1 a b c d∧p2 a b c d)(k:∀ a b c d,p0 a b c d→p1 a b c d→p2 a b c d→G):G:=by
 obtain⟨a,b,c,d,h0,h1,h2⟩:=h;exact k a b c d h0 h1 h2
theorem ze44.{u0,u1,u2,u3}{α0:Sort u0}{α1:Sort u1}{α2:Sort u2}{α3:Sort u3}{p0 p1 p2 p3:α0→α1→α2→α3→Prop}{G:Prop}(h:∃ a b c d,p0 a b c d∧p1 a b c d∧p2 a b c d∧p3 a b c d)(k:∀ a b c d,p0 a b c d→p1 a b c d→p2 a b c d→p3 a b c d→G):G:=by
 obtain⟨a,b,c,d,h0,h1,h2,h3⟩:=h;exact k a b c d h0 h1 h2 h3
theorem ze47.{u0,u1,u2,u3}{α0:Sort u0}{α1:Sort u1}{α2:Sort u2}{α3:Sort u3}{p0 p1 p2 p3 p4 p5 p6:α0→α1→α2→α3→Prop}{G:Prop}(h:∃ a b c d,p0 a b c d∧p1 a b c d∧p2 a b c d∧p3 a b c d∧p4 a b c d∧p5 a b c d∧p6 a b c d)(k:∀ a b c d,p0 a b c d→p1 a b c d→p2 a b c d→p3 a b c d→p4 a b c d→p5 a b c d→p6 a b c d→G):G:=by
 obtain⟨a,b,c,d,h0,h1,h2,h3,h4,h5,h6⟩:=h;exact k a b c d h0 h1 h2 h3 h4 h5 h6
theorem ze51.{u0,u1,u2,u3,u4}{α0:Sort u0}{α1:Sort u1}{α2:Sort u2}{α3:Sort u3}{α4:Sort u4}{p0:α0→α1→α2→α3→α4→Prop}{G:Prop}(h:∃ a b c d e,p0 a b c d e)(k:∀ a b c d e,p0 a b c d e→G):G:=by
 obtain⟨a,b,c,d,e,h0⟩:=h;exact k a b c d e h0
theorem ze52.{u0,u1,u2,u3,u4}{α0:Sort u0}{α1:Sort u1}{α2:Sort u2}{α3:Sort u3}{α4:Sort u4}{p0 p1:α0→α1→α2→α3→α4→Prop}{G:Prop}(h:∃ a b c d e,p0 a b c d e∧p1 a b c d e)(k:∀ a b c d e,p0 a b c d e→p1 a b c d e→G):G:=by
 obtain⟨a,b,c,d,e,h0,h1⟩:=h;exact k a b c d e h0 h1
theorem ze54.{u0,u1,u2,u3,u4}{α0:Sort u0}{α1:Sort u1}{α2:Sort u2}{α3:Sort u3}{α4:Sort u4}{p0 p1 p2 p3:α0→α1→α2→α3→α4→Prop}{G:Prop}(h:∃ a b c d e,p0 a b c d e∧p1 a b c d e∧p2 a b c d e∧p3 a b c d e)(k:∀ a b c d e,p0 a b c d e→p1 a b c d e→p2 a b c d e→p3 a b c d e→G):G:=by
 obtain⟨a,b,c,d,e,h0,h1,h2,h3⟩:=h;exact k a b c d e h0 h1 h2 h3
theorem zbd.{u,v}{α:Type u}{β:Type v}{o:Option α}{f:α→Option β}{r:β}{G:Prop}(h:o.bind f=some r)(k:∀ a,o=some a→f a=some r→G):G:=by
 cases o with
 | none=>cases h
 | some a=>exact k a rfl h
end Mine.Internal
noncomputable section
open PySem PySem.W PySem.Calls PyProof.Rows
namespace Mine.Internal
theorem noneE {α:Type _}{r:α}{P:Prop}(h:(none:Option α)=some r):P:=nomatch h
inductive V where
 | none
 | bool (b:Bool)
 | int (i:Int)
 | str (l:List Nat)
 | tup (l:List V)
 | lst (l:List V)
 | obj (n:Nat)
 deriving Inhabited
noncomputable abbrev ms (l:List Nat):Str:=⟨l.toArray⟩
mutual
inductive R (ids:List Addr)(h:Heap)(W:Addr→Prop):Value→V→Prop
 | none:R ids h W .none .none
 | bool (b:Bool):R ids h W (.bool b) (.bool b)
 | int (i:Int) (t:Tok):R ids h W (.int i t) (.int i)
 | str (l:List Nat) (t:Tok):(∀ c∈l,c<1114112)→l.length≤sizeLine→R ids h W (.str (ms l) t) (.str l)
 | obj (n:Nat) (a:Addr):ids[n]? = some a→R ids h W (.ref a) (.obj n)
 | tup (a:Addr) (vs:List Value) (xs:List V):xs.length≤sizeLine→IsTup h a vs.toArray→¬W a→RL ids h W vs xs→R ids h W (.ref a) (.tup xs)
 | lst (a:Addr) (vs:List Value) (xs:List V):xs.length≤sizeLine→h.IsList a vs.toArray→¬W a→RL ids h W vs xs→R ids h W (.ref a) (.lst xs)
inductive RL (ids:List Addr)(h:Heap)(W:Addr→Prop):List Value→List V→Prop
 | nil:RL ids h W [] []
 | cons {v:Value} {x:V} {vs:List Value} {xs:List V}:R ids h W v x→RL ids h W vs xs→RL ids h W (v::vs) (x::xs)
end
theorem RL.length {ids h W}:∀ {vs:List Value} {xs:List V},RL ids h W vs xs→vs.length=xs.length
 | [],_,r=>by cases r;rfl
 | v::vs,_,r=>by
  cases r with
  | cons a b=>simp[b.length]
theorem RL.append {ids h W}:∀ {vs:List Value} {xs:List V} {vs':List Value} {xs':List V},RL ids h W vs xs→RL ids h W vs' xs'→RL ids h W (vs++vs') (xs++xs')
 | [],_,_,_,r,q=>by cases r;exact q
 | v::vs,_,_,_,r,q=>by
  cases r with
  | cons a b=>exact .cons a (b.append q)
theorem RL.get {ids h W}:∀ {vs:List Value} {xs:List V},RL ids h W vs xs→∀ {i:Nat} {x:V},xs[i]? = some x→∃ v,vs[i]? = some v∧R ids h W v x
 | [],_,r,i,x,e=>by cases r;simp at e
 | v::vs,_,r,i,x,e=>by
  cases r with
  | cons a b=>
   cases i with
   | zero=>simp at e;subst e;exact⟨_,rfl,a⟩
   | succ i=>simpa using b.get (by simpa using e)
theorem RL.get' {ids h W}:∀ {vs:List Value} {xs:List V},RL ids h W vs xs→∀ {i:Nat} {v:Value},vs[i]? = some v→∃ x,xs[i]? = some x∧R ids h W v x
 | [],_,r,i,x,e=>by simp at e
 | v::vs,_,r,i,x,e=>by
  cases r with
  | cons a b=>
   cases i with
   | zero=>simp at e;subst e;exact⟨_,rfl,a⟩
   | succ i=>simpa using b.get' (by simpa using e)
theorem RL.take {ids h W}:∀ {vs:List Value} {xs:List V},RL ids h W vs xs→∀ n,RL ids h W (vs.take n) (xs.take n)
 | [],_,r,n=>by cases r;simp;exact .nil
 | v::vs,_,r,n=>by
  cases r with
  | cons a b=>
   cases n with
   | zero=>exact .nil
   | succ n=>exact .cons a (b.take n)
theorem RL.drop {ids h W}:∀ {vs:List Value} {xs:List V},RL ids h W vs xs→∀ n,RL ids h W (vs.drop n) (xs.drop n)
 | [],_,r,n=>by cases r;simp;exact .nil
 | v::vs,_,r,n=>by
  cases r with
  | cons a b=>
   cases n with
   | zero=>exact .cons a b
   | succ n=>exact b.drop n
theorem RL.set {ids h W}:∀ {vs:List Value} {xs:List V},RL ids h W vs xs→∀ n {v x},R ids h W v x→RL ids h W (vs.set n v) (xs.set n x)
 | [],_,r,n,_,_,q=>by cases r;exact .nil
 | v::vs,_,r,n,_,_,q=>by
  cases r with
  | cons a b=>
   cases n with
   | zero=>exact .cons q b
   | succ n=>exact .cons a (b.set n q)
noncomputable def HExt (W:Addr→Prop)(h h':Heap):Prop:=∀ b o,¬W b→h.get? b=some o→h'.get? b=some o
theorem R.ind {ids h W}{p:Value→V→Prop}{q:List Value→List V→Prop}(h1:p .none .none)(h2:∀ b,p (.bool b) (.bool b))(h3:∀ i t,p (.int i t) (.int i))(h4:∀ (l:List Nat) t,(∀ c∈l,c<1114112)→l.length≤sizeLine→p (.str (ms l) t) (.str l))
  (h5:∀ (n:Nat) (a:Addr),ids[n]? = some a→p (.ref a) (.obj n)) (h6:∀ a (vs:List Value) (xs:List V),xs.length≤sizeLine→IsTup h a vs.toArray→¬W a→q vs xs→p (.ref a) (.tup xs))
  (h7:∀ a (vs:List Value) (xs:List V),xs.length≤sizeLine→h.IsList a vs.toArray→¬W a→q vs xs→p (.ref a) (.lst xs)) (h8:q [] []) (h9:∀ v x vs xs,p v x→q vs xs→q (v::vs) (x::xs)):
  (∀ {v x},R ids h W v x→p v x)∧∀ {vs xs},RL ids h W vs xs→q vs xs:=
 ⟨fun r=>R.rec (motive_1:=fun v x _x=>p v x) (motive_2:=fun vs xs _x=>q vs xs) h1 h2 h3 h4 h5 (fun a vs xs a1 a2 a3 _x ih=>h6 a vs xs a1 a2 a3 ih) (fun a vs xs a1 a2 a3 _x ih=>h7 a vs xs a1 a2 a3 ih) h8 (fun _x _x i1 i2=>h9 _ _ _ _ i1 i2) r,
  fun r=>RL.rec (motive_1:=fun v x _x=>p v x) (motive_2:=fun vs xs _x=>q vs xs) h1 h2 h3 h4 h5 (fun a vs xs a1 a2 a3 _x ih=>h6 a vs xs a1 a2 a3 ih) (fun a vs xs a1 a2 a3 _x ih=>h7 a vs xs a1 a2 a3 ih) h8 (fun _x _x i1 i2=>h9 _ _ _ _ i1 i2) r⟩
theorem R.monoB {ids ids':List Addr}{h h':Heap}{W W':Addr→Prop}(hi:∀ (n:Nat) (a:Addr),ids[n]? = some a→ids'[n]? = some a)(hh:HExt W h h')
  (hw:∀ b o,h.get? b=some o→¬W b→¬W' b):(∀ {v x},R ids h W v x→R ids' h' W' v x)∧∀ {vs xs},RL ids h W vs xs→RL ids' h' W' vs xs:=
 R.ind .none .bool .int .str (fun n a e=>.obj n a (hi n a e))
  (fun a vs xs hz ht hn ih=>Exists.elim ht fun o h=>.tup a vs xs hz ⟨o,hh a o hn h.1,h.2⟩ (hw a o h.1 hn) ih)
  (fun a vs xs hz ht hn ih=>Exists.elim ht fun o h=>.lst a vs xs hz ⟨o,hh a o hn h.1,h.2⟩ (hw a o h.1 hn) ih) .nil (fun _x _x _x _x=>.cons)
theorem R.mono {ids ids':List Addr}{h h':Heap}{W W':Addr→Prop}(hi:∀ (n:Nat) (a:Addr),ids[n]? = some a→ids'[n]? = some a)(hh:HExt W h h')
  (hw:∀ b o,h.get? b=some o→¬W b→¬W' b) {v:Value} {x:V} (r:R ids h W v x):R ids' h' W' v x:=(R.monoB hi hh hw).1 r
theorem RL.mono {ids ids':List Addr}{h h':Heap}{W W':Addr→Prop}(hi:∀ (n:Nat) (a:Addr),ids[n]? = some a→ids'[n]? = some a)(hh:HExt W h h')
  (hw:∀ b o,h.get? b=some o→¬W b→¬W' b) {vs:List Value} {xs:List V} (r:RL ids h W vs xs):RL ids' h' W' vs xs:=(R.monoB hi hh hw).2 r
theorem R.keeps {ids h h'}{W:Addr→Prop}{v x}(r:R ids h W v x)(hh:HExt W h h'):R ids h' W v x:=r.mono (fun _x _x e=>e) hh fun _x _x _x h=>h
theorem RL.keeps {ids h h'}{W:Addr→Prop}{v x}(r:RL ids h W v x)(hh:HExt W h h'):RL ids h' W v x:=r.mono (fun _x _x e=>e) hh fun _x _x _x h=>h
theorem R.sub {ids h}{W W':Addr→Prop}{v x}(r:R ids h W v x)(hw:∀ b,W' b→W b):R ids h W' v x:=r.mono (fun _x _x e=>e) (fun _x _x _x e=>e) fun b _x _x hn h=>hn (hw b h)
theorem RL.sub {ids h}{W W':Addr→Prop}{v x}(r:RL ids h W v x)(hw:∀ b,W' b→W b):RL ids h W' v x:=r.mono (fun _x _x e=>e) (fun _x _x _x e=>e) fun b _x _x hn h=>hn (hw b h)
inductive Slot where
 | undef
 | val (v:V)
 | own (l:List V)
 | ownP (l:List V)
 | app (r:Nat)
 | cnt (n:Nat)
 deriving Inhabited
noncomputable def Slot.owned?:Slot→Option (List V)
 | .own l=>some l
 | .ownP l=>some l
 | _=>none
structure IdsOk (ids:List Addr)(h:Heap):Prop where
 there:∀ (n:Nat) (a:Addr),ids[n]? = some a→∃ o,h.get? a=some o∧o.cls≠.type "tuple"
 nodup:ids.Nodup
structure GC where
 prog:Program
 w:World
 h0:Heap
 P:Addr
 os:OsState
 known:List (Pos×Str)
 mg:Str→Option Value
 mb:Str→Option Value
structure GOk (g:GC):Prop where
 glob:g.h0.Ns mainGlobals g.mg
 built:g.h0.Ns builtinsNs g.mb
 lim:g.h0.NoLimit
noncomputable def TabOk (g:GC)(h:Heap):Prop:=
 ∃ ps:Array Value,h.get? g.P=some (tabObj ps)∧TriplesOk ps.toList∧∀ pos cv,codeAmong pos ps.toList=some cv→∃ c q,cv=.ref c∧c≠g.P∧(∃ p,(p,q)∈g.known∧p.line=pos.line∧p.col=pos.col)∧h.CodeRec cv q
structure Ext (g:GC)(s s':Shared):Prop where
 heap:∀ b o,b≠g.P→s.heap.get? b=some o→s'.heap.get? b=some o
 tab:TabOk g s.heap→TabOk g s'.heap
 size:s.heap.objs.size≤s'.heap.objs.size
 gens:AllBare s.gens→AllBare s'.gens
 os:s'.os=s.os
 tk:s.toks≤s'.toks
theorem zIH {h h':Heap}{P c:Addr}{q:Str}(x:h.CodeRec (.ref c) q)(hc:c≠P)(hk:∀ b o,b≠P→h.get? b=some o→h'.get? b=some o):h'.CodeRec (.ref c) q:=by
 refine ze43 x fun c' o vs t e ho r=>?_;clear x;cases e;exact⟨c,o,vs,t,rfl,hk _ _ hc ho,r⟩
theorem TabOk.keeps {g:GC}{h h':Heap}(x:TabOk g h)(hk:∀ b o,h.get? b=some o→h'.get? b=some o):TabOk g h':=by
 refine ze13 x fun ps hp ht hc=>?_;clear x;exact⟨ps,hk _ _ hp,ht,fun pos cv e=>let ⟨c,q,e1,e2,e3,e4⟩:=hc pos cv e;⟨c,q,e1,e2,e3,e4.keeps hk⟩⟩
namespace Ext
variable {g:GC} {s s' s'':Shared}
theorem refl (s:Shared):Ext g s s:=⟨fun _x _x _x e=>e,fun x=>x,Nat.le_refl _,fun x=>x,rfl,Nat.le_refl _⟩
theorem trans (x:Ext g s s')(y:Ext g s' s''):Ext g s s'':=
 ⟨fun b o hb e=>y.heap b o hb (x.heap b o hb e),fun t=>y.tab (x.tab t),Nat.le_trans x.size y.size,fun t=>y.gens (x.gens t),y.os.trans x.os,Nat.le_trans x.tk y.tk⟩
theorem toks (s:Shared)(k:Nat)(h:s.toks≤k:=by first | exact Nat.le_succ _ | assumption | exact Nat.le_add_right_of_le (zznar _ _)):Ext g s {s with toks:=k}:=⟨fun _x _x _x e=>e,fun x=>x,Nat.le_refl _,fun x=>x,rfl,h⟩
theorem of_heap {h:Heap}{k:Nat}(hk:∀ b o,s.heap.get? b=some o→h.get? b=some o)(hs:s.heap.objs.size≤h.objs.size)(ht:s.toks≤k:=by first | exact zznlr _ | exact Nat.le_succ _ | assumption | exact Nat.le_add_right_of_le (zznar _ _)):Ext g s {s with heap:=h,toks:=k}:=
 ⟨fun b o _x e=>hk b o e,fun x=>x.keeps hk,hs,fun x=>x,rfl,ht⟩
theorem push (o:Obj):Ext g s {s with heap:=s.heap.push o}:=
 ⟨fun _x _x _x e=>Heap.get?_push_of_some _ e,fun x=>x.keeps fun _x _x e=>Heap.get?_push_of_some _ e,by simp[Heap.size_push],fun x=>x,rfl,Nat.le_refl _⟩
end Ext
theorem up {α:Type}{M:Model}{A:Around}{s:Shared}{t:Sem α}{Q:α→Shared→Prop}(h:wpAny M A t (fun a s'=>s.toks≤s'.toks→Q a s') (fun _x _x=>False) s):wpAny M A t Q (fun _x _x=>False) s:=
 zzwqm (wpAny_toks h) (fun _x _x h=>h.2 h.1) fun _x _x h=>h.2
structure Gh where
 m:Str→Option Value
 cm:Str→Option Value
 adr:Nat→Addr
structure FS where
 scope:Scope
 vm:Str→Option Nat
 code:Option (Addr×Str):=none
noncomputable def zAj (sc:Scope)(x:Str):Option NameKind:=sc.names.lookup x
structure EnvOk (fs:FS)(env:Env):Prop where
 scope:env.scope=fs.scope
 kind:env.scope.kind=.function
 globals:env.globals=mainGlobals
 builtins:env.builtins=builtinsNs
 code:∀ c q,fs.code=some (c,q)→env.code=.ref c∧env.qual=q
noncomputable def Own (env:Env)(gh:Gh)(η:List Slot)(b:Addr):Prop:=
 b=env.locals∨(∃ x,env.cells.lookup x=some b)∨∃ i sl l,η[i]? = some sl∧sl.owned? = some l∧gh.adr i=b
noncomputable def Wt (g:GC)(Wo:Addr→Prop)(env:Env)(gh:Gh)(η:List Slot)(b:Addr):Prop:=Wo b∨b=g.P∨Own env gh η b
noncomputable def zA3 (ids:List Addr)(h:Heap)(W:Addr→Prop)(adr:Nat→Addr)(η:List Slot)(i:Nat):Slot→Option Value→Prop
 | .undef,_=>True
 | .val x,ov=>∃ v,ov=some v∧R ids h W v x
 | .own xs,ov=>ov=some (.ref (adr i))∧∃ vs:List Value,xs.length≤sizeLine∧h.PlainList (adr i) vs.toArray∧RL ids h W vs xs
 | .ownP xs,ov=>ov=some (.ref (adr i))∧∃ vs:List Value,xs.length≤sizeLine∧h.PlainList (adr i) vs.toArray∧RL ids h W vs xs
 | .app r,ov=>∃ b l,ov=some (.ref b)∧η[r]? = some (.ownP l)∧¬W b∧h.get? b=some {cls:=.type "builtin_function_or_method",data:=.fields #[.builtin "list.append",.ref (adr r)]}
 | .cnt n,_=>n=ids.length
noncomputable def valOf (env:Env)(gh:Gh)(x:Str):Option Value:=if env.kindOf x=some .local then gh.m x else gh.cm x
theorem zDX {env:Env}{gh:Gh}{x:Str}(h:env.kindOf x=some .local):valOf env gh x=gh.m x:=if_pos h
theorem zBM {env:Env}{gh:Gh}{x:Str}(h:env.kindOf x≠some .local):valOf env gh x=gh.cm x:=if_neg h
theorem zKy {env:Env}{gh:Gh}{x y:Str}{v:Option Value}(h:y≠x):valOf env ⟨fun y=>if y=x then v else gh.m y,gh.cm,gh.adr⟩ y=valOf env gh y:=by
 unfold valOf;dsimp only;rw[if_neg h]
theorem zIN {env:Env}{gh:Gh}{x y:Str}{v:Option Value}(h:y≠x):valOf env ⟨gh.m,fun y=>if y=x then v else gh.cm y,gh.adr⟩ y=valOf env gh y:=by
 unfold valOf;dsimp only;rw[if_neg h]
noncomputable def Reach (env:Env)(x:Str):Prop:=
 env.kindOf x=some .local∨((env.kindOf x=some .cell∨env.kindOf x=some .free)∧(x==("__classdict__":Str))=false∧∃ c,env.cells.lookup x=some c)
structure Rel (g:GC)(ids:List Addr)(Wo:Addr→Prop)(env:Env)(vm:Str→Option Nat)(gh:Gh)(η:List Slot)(kp:Addr→Option Obj)(s:Shared):Prop where
 keep0:∀ b o,g.h0.get? b=some o→s.heap.get? b=some o
 keep:∀ b o,kp b=some o→s.heap.get? b=some o
 tab:TabOk g s.heap
 gens:AllBare s.gens
 os:s.os=g.os
 ns:s.heap.Ns env.locals gh.m
 cell:∀ x c,env.cells.lookup x=some c→s.heap.IsCell c (gh.cm x)
 capart:∀ x y c,env.cells.lookup x=some c→env.cells.lookup y=some c→x=y
 lcell:∀ x c,env.cells.lookup x=some c→c≠env.locals
 adrL:∀ i sl l,η[i]? = some sl→sl.owned? = some l→gh.adr i≠env.locals
 adrC:∀ i sl l,η[i]? = some sl→sl.owned? = some l→∀ x c,env.cells.lookup x=some c→gh.adr i≠c
 adrA:∀ i sl l j sl' l',η[i]? = some sl→sl.owned? = some l→η[j]? = some sl'→sl'.owned? = some l'→gh.adr i=gh.adr j→i=j
 adrWo:∀ i sl l,η[i]? = some sl→sl.owned? = some l→¬Wo (gh.adr i)
 off:∀ b,Own env gh η b→kp b=none∧g.h0.get? b=none∧b≠g.P
 offP:kp g.P=none∧g.h0.get? g.P=none
 var:∀ x i,vm x=some i→Reach env x∧∃ sl,η[i]? = some sl∧zA3 ids s.heap (Wt g Wo env gh η) gh.adr η i sl (valOf env gh x)
 vinj:∀ x y i,vm x=some i→vm y=some i→x=y
 cnt:∀ (i n:Nat),η[i]? = some (.cnt n)→n=ids.length
 idok:IdsOk ids s.heap
 wlt:∀ b,Wt g Wo env gh η b→b<s.heap.objs.size
 tk:0<s.toks
 idoff:∀ (n:Nat) (a:Addr),ids[n]? = some a→¬Wt g Wo env gh η a
theorem Wt_P {g:GC}{Wo env gh η}:Wt g Wo env gh η g.P:=.inr (.inl rfl)
theorem Ext.hext {g:GC}{s s':Shared}{W:Addr→Prop}(x:Ext g s s')(hP:W g.P):HExt W s.heap s'.heap:=
 fun b o hb e=>x.heap b o (fun h=>hb (h▸hP)) e
theorem zA3.ext {g:GC}{ids:List Addr}{s s':Shared}{W:Addr→Prop}{adr:Nat→Addr}{η:List Slot}{i:Nat}{sl:Slot}{ov:Option Value}(x:Ext g s s')(hP:W g.P)
  (ho:∀ l,sl.owned? = some l→adr i≠g.P) (r:zA3 ids s.heap W adr η i sl ov):zA3 ids s'.heap W adr η i sl ov:=by
 cases sl with
 | undef=>trivial
 | val v=>obtain⟨v',e,r⟩:=r;exact⟨v',e,r.keeps (x.hext hP)⟩
 | own l=>obtain⟨e,vs,hz,hl,r⟩:=r;exact⟨e,vs,hz,hl.at fun o e=>x.heap _ _ (ho l rfl) e,r.keeps (x.hext hP)⟩
 | ownP l=>obtain⟨e,vs,hz,hl,r⟩:=r;exact⟨e,vs,hz,hl.at fun o e=>x.heap _ _ (ho l rfl) e,r.keeps (x.hext hP)⟩
 | app r'=>obtain⟨b,l,e1,e2,e3,e4⟩:=r;exact⟨b,l,e1,e2,e3,x.hext hP _ _ e3 e4⟩
 | cnt n=>exact r
theorem IdsOk.ext {g:GC}{ids:List Addr}{s s':Shared}(i:IdsOk ids s.heap)(x:Ext g s s')(t:TabOk g s.heap):IdsOk ids s'.heap:=
 ⟨fun n a e=>by
  refine Mine.Internal.ze12 (i.there n a e) fun o ho hc=>?_;by_cases h:a=g.P
  ·refine Mine.Internal.ze12 (x.tab t) fun ps hp _=>?_;exact⟨_,h▸hp,by simp[tabObj]⟩
  ·exact⟨o,x.heap _ _ h ho,hc⟩,i.nodup⟩
theorem Rel.ext {g:GC}{ids Wo env vm gh η kp}{s s':Shared}(r:Rel g ids Wo env vm gh η kp s)(x:Ext g s s'):Rel g ids Wo env vm gh η kp s' where
 keep0:=fun b o e=>x.heap b o (fun h=>by rw[h,r.offP.2] at e;exact noneE e) (r.keep0 b o e)
 keep:=fun b o e=>x.heap b o (fun h=>by rw[h,r.offP.1] at e;exact noneE e) (r.keep b o e)
 tab:=x.tab r.tab
 gens:=x.gens r.gens
 os:=x.os.trans r.os
 ns:=r.ns.at' fun o e=>x.heap _ _ (r.off _ (.inl rfl)).2.2 e
 cell:=fun y c e=>let ⟨o,ho,hd⟩:=r.cell y c e;⟨o,x.heap _ _ (r.off c (.inr (.inl ⟨y,e⟩))).2.2 ho,hd⟩
 capart:=r.capart
 lcell:=r.lcell
 adrL:=r.adrL
 adrC:=r.adrC
 adrA:=r.adrA
 adrWo:=r.adrWo
 off:=r.off
 offP:=r.offP
 var:=fun y i e=>let ⟨a,sl,b,c⟩:=r.var y i e;⟨a,sl,b,c.ext x Wt_P fun l hl=>(r.off _ (.inr (.inr ⟨i,sl,l,b,hl,rfl⟩))).2.2⟩
 vinj:=r.vinj
 cnt:=r.cnt
 idok:=r.idok.ext x r.tab
 wlt:=fun b hb=>zznlv (r.wlt b hb) x.size
 tk:=zznlv r.tk x.tk
 idoff:=r.idoff
noncomputable def AOk (j:Nat)(A:Around):Prop:=A.handled=none∧A.depth+j≤900∧A.units+30*j≤5000
theorem AOk.depth {j A}(h:AOk j A):A.depth<recursionLimit:=zznlu (zznlt (zznar _ j) h.2.1) (by decide)
noncomputable def SimE (g:GC)(j:Nat)(fs:FS)(e:Expr)(f:List Slot→Option V):Prop:=
 ∀ (A:Around) (ids:List Addr) (Wo:Addr→Prop) (env:Env) (gh:Gh) (η:List Slot) (kp:Addr→Option Obj) (s:Shared) (x:V),
  AOk j A→EnvOk fs env→Rel g ids Wo env fs.vm gh η kp s→f η=some x→
  wpAny (model g.prog g.w) A (eval e env) (fun v s'=>Ext g s s'∧R ids s'.heap (Wt g Wo env gh η) v x) (fun _ _=>False) s
noncomputable def SimT (g:GC)(j:Nat)(fs:FS)(e:Expr)(f:List Slot→Option Bool):Prop:=
 ∀ (A:Around) (ids:List Addr) (Wo:Addr→Prop) (env:Env) (gh:Gh) (η:List Slot) (kp:Addr→Option Obj) (s:Shared) (x:Bool),
  AOk j A→EnvOk fs env→Rel g ids Wo env fs.vm gh η kp s→f η=some x→
  wpAny (model g.prog g.w) A (isTrue e env (eval e env)) (fun v s'=>Ext g s s'∧v=x) (fun _ _=>False) s
end Mine.Internal
end
noncomputable section
open PySem PySem.W PySem.Calls PyProof.Rows
namespace Mine.Internal
inductive RC (g:GC)(ids:List Addr)(h:Heap)(W:Addr→Prop):Value→V→Prop
 | ofR {v:Value} {x:V}:R ids h W v x→RC g ids h W v x
 | own {a:Addr} {vs:List Value} {xs:List V}:xs.length≤sizeLine→h.IsList a vs.toArray→a≠g.P→RL ids h W vs xs→RC g ids h W (.ref a) (.lst xs)
theorem RC.ext {g:GC}{ids W}{s s':Shared}{v x}(e:Ext g s s')(hP:W g.P):RC g ids s.heap W v x→RC g ids s'.heap W v x
 | .ofR r=>.ofR (r.keeps (e.hext hP))
 | .own hz ⟨o,ho,q⟩ hn r=>.own hz ⟨o,e.heap _ _ hn ho,q⟩ hn (r.keeps (e.hext hP))
structure Wok (g:GC)(W:Addr→Prop)(s:Shared):Prop where
 P:W g.P
 lt:∀ b,W b→b<s.heap.objs.size
theorem Wok.ext {g:GC}{W}{s s':Shared}(w:Wok g W s)(e:Ext g s s'):Wok g W s':=⟨w.P,fun b hb=>zznlv (w.lt b hb) e.size⟩
theorem Rel.wok {g:GC}{ids Wo env vm gh η kp}{s:Shared}(r:Rel g ids Wo env vm gh η kp s):Wok g (Wt g Wo env gh η) s:=⟨Wt_P,r.wlt⟩
theorem Wok.fresh {g:GC}{W}{s:Shared}(w:Wok g W s){a:Addr}(ha:s.heap.objs.size≤a):¬W a:=fun h=>Nat.lt_irrefl _ (zznlv (w.lt a h) ha)
theorem RC.lst {g:GC}{ids h W v xs}(hP:W g.P):RC g ids h W v (.lst xs)→∃ a vs,v=.ref a∧h.IsList a (List.toArray vs)∧a≠g.P∧RL ids h W vs xs∧xs.length≤sizeLine:=by
 intro x;cases x with
 | ofR r=>cases r with
  | lst a vs _ hz hl hn r=>exact⟨a,vs,rfl,hl,fun e=>hn (e▸hP),r,hz⟩
 | own hz hl hn r=>exact⟨_,_,rfl,hl,hn,r,hz⟩
theorem RC.int {g:GC}{ids h W v i}:RC g ids h W v (.int i)→∃ t,v=.int i t:=by
 intro x;cases x with
 | ofR r=>cases r with
  | int _ t=>exact⟨t,rfl⟩
theorem RC.str {g:GC}{ids h W v l}:RC g ids h W v (.str l)→∃ t,v=.str (ms l) t∧(∀ c∈l,c<1114112)∧l.length≤sizeLine:=by
 intro x;cases x with
 | ofR r=>cases r with
  | str _ t hl hz=>exact⟨t,rfl,hl,hz⟩
theorem RC.bool {g:GC}{ids h W v b}:RC g ids h W v (.bool b)→v=.bool b:=by
 intro x;cases x with
 | ofR r=>cases r;rfl
theorem RC.none {g:GC}{ids h W v}:RC g ids h W v .none→v=.none:=by
 intro x;cases x with
 | ofR r=>cases r;rfl
theorem RC.tup {g:GC}{ids h W v xs}:RC g ids h W v (.tup xs)→∃ a vs,v=.ref a∧IsTup h a (List.toArray vs)∧¬W a∧RL ids h W vs xs∧xs.length≤sizeLine:=by
 intro x;cases x with
 | ofR r=>cases r with
  | tup a vs _ hz hl hn r=>exact⟨a,vs,rfl,hl,hn,r,hz⟩
theorem RC.obj {g:GC}{ids h W v n}:RC g ids h W v (.obj n)→∃ a,v=.ref a∧ids[n]? = some a:=by
 intro x;cases x with
 | ofR r=>cases r with
  | obj _ a e=>exact⟨a,rfl,e⟩
noncomputable abbrev PE (g:GC)(ids:List Addr)(W:Addr→Prop)(s:Shared)(x:V):Value→Shared→Prop:=fun v s'=>Ext g s s'∧R ids s'.heap W v x
noncomputable abbrev PC (g:GC)(ids:List Addr)(W:Addr→Prop)(s:Shared)(x:V):Value→Shared→Prop:=fun v s'=>Ext g s s'∧RC g ids s'.heap W v x
noncomputable abbrev Fl:Value→Shared→Prop:=fun _ _=>False
noncomputable def SimC (g:GC)(j:Nat)(fs:FS)(e:Expr)(f:List Slot→Option V):Prop:=
 ∀ (A:Around) (ids:List Addr) (Wo:Addr→Prop) (env:Env) (gh:Gh) (η:List Slot) (kp:Addr→Option Obj) (s:Shared) (x:V),
  AOk j A→EnvOk fs env→Rel g ids Wo env fs.vm gh η kp s→f η=some x→
  wpAny (model g.prog g.w) A (eval e env) (PC g ids (Wt g Wo env gh η) s x) Fl s
theorem SimE.c {g j fs e f}(h:SimE g j fs e f):SimC g j fs e f:=fun A ids Wo env gh η kp s x hA hE hR hx=>
 zzwqm (h A ids Wo env gh η kp s x hA hE hR hx) (fun _ _ ⟨a,b⟩=>⟨a,.ofR b⟩) fun _x _x h=>h
noncomputable def Op1 (g:GC)(j:Nat)(t:Value→Sem Value)(f:V→Option V):Prop:=
 ∀ (A:Around) (ids:List Addr) (W:Addr→Prop) (s:Shared) (a:Value) (x r:V),AOk j A→Wok g W s→RC g ids s.heap W a x→f x=some r→wpAny (model g.prog g.w) A (t a) (PE g ids W s r) Fl s
noncomputable def Op2 (g:GC)(j:Nat)(t:Value→Value→Sem Value)(f:V→V→Option V):Prop:=
 ∀ (A:Around) (ids:List Addr) (W:Addr→Prop) (s:Shared) (a b:Value) (x y r:V),AOk j A→Wok g W s→RC g ids s.heap W a x→RC g ids s.heap W b y→f x y=some r→wpAny (model g.prog g.w) A (t a b) (PE g ids W s r) Fl s
noncomputable def Cmp2 (g:GC)(j:Nat)(op:CmpOp)(f:V→V→Option Bool):Prop:=
 ∀ (A:Around) (ids:List Addr) (W:Addr→Prop) (s:Shared) (a b:Value) (x y:V) (r:Bool),AOk j A→Wok g W s→IdsOk ids s.heap→RC g ids s.heap W a x→RC g ids s.heap W b y→f x y=some r→
  wpAny (model g.prog g.w) A (compareOp op a b) (fun v s'=>Ext g s s'∧v=.bool r) Fl s
section
variable {g:GC} {j:Nat} {fs:FS}
noncomputable def b2 (f h:List Slot→Option V)(o:V→V→Option V):List Slot→Option V:=fun η=>(f η).bind fun x=>(h η).bind fun y=>o x y
theorem zPg {x:Str}{l:List Nat}{k pos}(hl:x.cps.toList=l)(hc:(l.all fun c=>decide (c<1114112))=true)(hz:l.length≤10000):SimE g j fs (.Constant (.str x) k pos) (fun _x=>some (.str l)):=by
 intro A ids Wo env gh η kp s v hA hE hR hx;cases hx;refine wpAny_Constant_str ⟨Ext.toks ..,?_⟩;have e:x=ms l:=by cases x;subst hl;rfl
 rw[e];exact .str _ _ (fun c hm=>zzode (List.all_eq_true.mp hc c hm)) (zznlt hz (by decide))
theorem zPh {i:Int}{k pos}:SimE g j fs (.Constant (.int i) k pos) (fun _x=>some (.int i)):=by
 intro A ids Wo env gh η kp s v hA hE hR hx;cases hx;exact wpAny_Constant_int ⟨Ext.toks ..,.int _ _⟩
theorem zPc {k pos}:SimE g j fs (.Constant .none k pos) (fun _x=>some .none):=by
 intro A ids Wo env gh η kp s v hA hE hR hx;cases hx;exact wpAny_Constant_none ⟨Ext.refl _,.none⟩
theorem zPd {b:Bool}{k pos}:SimE g j fs (.Constant (.bool b) k pos) (fun _x=>some (.bool b)):=by
 intro A ids Wo env gh η kp s v hA hE hR hx;cases hx;exact wpAny_Constant_bool ⟨Ext.refl _,.bool _⟩
theorem zAR {A:Around}{E:Value→Shared→Prop}{ids Wo env gh η kp}{s:Shared}{x:Str}{v:Value}{Q:Value→Shared→Prop}(hE:EnvOk fs env)(hR:Rel g ids Wo env fs.vm gh η kp s)
  (hr:Reach env x) (hv:valOf env gh x=some v) (h:Q v s):wpAny (model g.prog g.w) A (loadName env x) Q E s:=by
 rcases hr with hl | ⟨hl,hn,c,hc⟩
 ·rw[zDX hl] at hv;exact wpAny_loadName_local hE.kind hl hR.ns hv h
 ·have hcell:=hR.cell x c hc;rw[zBM (by rcases hl with hl | hl<;>rw[hl]<;>exact nofun)] at hv;rcases hl with hl | hl
  ·exact wpAny_loadName_cell hE.kind hl hc (hv▸hcell) h
  ·exact wpAny_loadName_free hE.kind hl hc (hv▸hcell) h hn
noncomputable def Slot.rd:Slot→Option V
 | .val v=>some v
 | _=>none
noncomputable def Slot.rdc:Slot→Option V
 | .val v=>some v
 | .own l=>some (.lst l)
 | .ownP l=>some (.lst l)
 | _=>none
noncomputable def rd (η:List Slot)(i:Nat):Option V:=η[i]?.bind Slot.rd
noncomputable def rdc (η:List Slot)(i:Nat):Option V:=η[i]?.bind Slot.rdc
theorem SimE.name {x:Str}{i:Nat}{pos}(hv:fs.vm x=some i)(hd:(x==("__debug__":Str))=false):SimE g j fs (.Name x pos) (fun η=>rd η i):=by
 intro A ids Wo env gh η kp s v hA hE hR hx;refine ze02 (hR.var x i hv) fun hr z1=>?_;refine ze12 z1 fun sl hi hs=>?_;clear z1;replace hx:(η[i]?).bind Slot.rd=some v:=hx;rw[hi] at hx;cases sl with
 | val v'=>cases hx;obtain⟨v',e,r⟩:=hs;exact wpAny_Name (zAR hE hR hr e ⟨Ext.refl _,r⟩) hd
 | _=>exact noneE hx
theorem SimC.name {x:Str}{i:Nat}{pos}(hv:fs.vm x=some i)(hd:(x==("__debug__":Str))=false):SimC g j fs (.Name x pos) (fun η=>rdc η i):=by
 intro A ids Wo env gh η kp s v hA hE hR hx;refine ze02 (hR.var x i hv) fun hr z2=>?_;refine ze12 z2 fun sl hi hs=>?_;clear z2;replace hx:(η[i]?).bind Slot.rdc=some v:=hx;rw[hi] at hx;cases sl with
 | val v'=>cases hx;obtain⟨v',e,r⟩:=hs;exact wpAny_Name (zAR hE hR hr e ⟨Ext.refl _,.ofR r⟩) hd
 | own l=>cases hx;obtain⟨e,vs,hz,hl,r⟩:=hs;exact wpAny_Name (zAR hE hR hr e ⟨Ext.refl _,.own hz hl.isList (hR.off _ (.inr (.inr ⟨i,_,l,hi,rfl,rfl⟩))).2.2 r⟩) hd
 | ownP l=>cases hx;obtain⟨e,vs,hz,hl,r⟩:=hs;exact wpAny_Name (zAR hE hR hr e ⟨Ext.refl _,.own hz hl.isList (hR.off _ (.inr (.inr ⟨i,_,l,hi,rfl,rfl⟩))).2.2 r⟩) hd
 | _=>exact noneE hx
theorem zQl {l r:Expr}{op pos f h o}(hl:SimC g j fs l f)(hr:SimC g j fs r h)(ho:Op2 g j (binaryOp op) o):SimE g j fs (.BinOp l op r pos) (b2 f h o):=by
 intro A ids Wo env gh η kp s v hA hE hR hx;refine zbd hx fun x hf hx=>?_;refine zbd hx fun y hh hx=>?_;refine wpAny_BinOp (zzwqm (hl A ids Wo env gh η kp s x hA hE hR hf) (fun a s₁ q=>?_) fun _x _x h=>h);refine ze02 q fun e1 r1=>?_;clear q;refine zzwqm (hr A ids Wo env gh η kp s₁ y hA hE (hR.ext e1) hh) (fun b s₂ q=>?_) fun _x _x h=>h;refine ze02 q fun e2 r2=>?_;clear q;refine zzwqm (ho A ids _ s₂ a b x y v hA (hR.wok.ext (e1.trans e2)) (r1.ext e2 Wt_P) r2 hx) (fun c s₃ q=>⟨(e1.trans e2).trans q.1,q.2⟩) fun _x _x h=>h
noncomputable def t2 (f h:List Slot→Option V)(o:V→V→Option Bool):List Slot→Option Bool:=fun η=>(f η).bind fun x=>(h η).bind fun y=>o x y
theorem zQg {l r:Expr}{op pos f h o}(hl:SimC g j fs l f)(hr:SimC g j fs r h)(ho:Cmp2 g j op o)(hb:behindInMarks op r=false):SimT g j fs (.Compare l [op] [r] pos) (t2 f h o):=by
 intro A ids Wo env gh η kp s v hA hE hR hx;refine zbd hx fun x hf hx=>?_;refine zbd hx fun y hh hx=>?_;refine wpAny_isTrue_Compare1 (zzwqm (hl A ids Wo env gh η kp s x hA hE hR hf) (fun a s₁ q=>?_) fun _x _x h=>h) hb;refine ze02 q fun e1 r1=>?_;clear q;refine zzwqm (hr A ids Wo env gh η kp s₁ y hA hE (hR.ext e1) hh) (fun b s₂ q=>?_) fun _x _x h=>h;refine ze02 q fun e2 r2=>?_;clear q;refine zzwqm (ho A ids _ s₂ a b x y v hA (hR.wok.ext (e1.trans e2)) (hR.ext (e1.trans e2)).idok (r1.ext e2 Wt_P) r2 hx) (fun c s₃ q=>?_) fun _x _x h=>h;refine ze02 q fun e3 r3=>?_;clear q;subst r3;exact wpAny_truthy_bool ⟨(e1.trans e2).trans e3,rfl⟩
theorem zQf {e:Expr}{pos f}(h:SimT g j fs e f):SimT g j fs (.UnaryOp .Not e pos) (fun η=>(f η).map not):=by
 intro A ids Wo env gh η kp s v hA hE hR hx;refine ze12 (Option.map_eq_some_iff.mp hx) fun x hf z3=>?_;subst z3;exact wpAny_isTrue_Not (zzwqm (h A ids Wo env gh η kp s x hA hE hR hf) (fun b s₁ q=>⟨q.1,by rw[q.2]⟩) fun _x _x h=>h)
noncomputable def tAnd (f h:List Slot→Option Bool):List Slot→Option Bool:=fun η=>(f η).bind fun b=>if b=true then h η else some false
noncomputable def tOr (f h:List Slot→Option Bool):List Slot→Option Bool:=fun η=>(f η).bind fun b=>if b=true then some true else h η
noncomputable def SimTs (g:GC)(j:Nat)(fs:FS)(op:BoolOp)(es:List Expr)(f:List Slot→Option Bool):Prop:=
 ∀ (A:Around) (ids:List Addr) (Wo:Addr→Prop) (env:Env) (gh:Gh) (η:List Slot) (kp:Addr→Option Obj) (s:Shared) (x:Bool),
  AOk j A→EnvOk fs env→Rel g ids Wo env fs.vm gh η kp s→f η=some x→
  wpAny (model g.prog g.w) A (allTrue op es env) (fun v s'=>Ext g s s'∧v=x) Fl s
theorem SimTs.nilAnd:SimTs g j fs .And [] (fun _x=>some true):=by
 intro A ids Wo env gh η kp s v hA hE hR hx;cases hx;exact zzwqp ⟨Ext.refl _,rfl⟩
theorem SimTs.nilOr:SimTs g j fs .Or [] (fun _x=>some false):=by
 intro A ids Wo env gh η kp s v hA hE hR hx;cases hx;exact zzwqp ⟨Ext.refl _,rfl⟩
theorem SimTs.and {e es f h}(he:SimT g j fs e f)(hr:SimTs g j fs .And es h):SimTs g j fs .And (e::es) (tAnd f h):=by
 intro A ids Wo env gh η kp s v hA hE hR hx;refine zbd hx fun b hf hx=>?_;show wpAny _ A (do match BoolOp.And,←isTrue e env (eval e env) with
  | .And,false=>pure false
  | .Or,true=>pure true
  | _,_=>allTrue .And es env) _ _ s
 refine zzwqb (zzwqm (he A ids Wo env gh η kp s b hA hE hR hf) (fun c s₁ q=>?_) fun _x _x h=>h);refine ze02 q fun e1 r1=>?_;clear q;subst r1;cases c
 ·simp at hx;subst hx;exact zzwqp ⟨e1,rfl⟩
 ·simp at hx;exact zzwqm (hr A ids Wo env gh η kp s₁ v hA hE (hR.ext e1) hx) (fun c s₂ q=>⟨e1.trans q.1,q.2⟩) fun _x _x h=>h
theorem SimTs.or {e es f h}(he:SimT g j fs e f)(hr:SimTs g j fs .Or es h):SimTs g j fs .Or (e::es) (tOr f h):=by
 intro A ids Wo env gh η kp s v hA hE hR hx;refine zbd hx fun b hf hx=>?_;show wpAny _ A (do match BoolOp.Or,←isTrue e env (eval e env) with
  | .And,false=>pure false
  | .Or,true=>pure true
  | _,_=>allTrue .Or es env) _ _ s
 refine zzwqb (zzwqm (he A ids Wo env gh η kp s b hA hE hR hf) (fun c s₁ q=>?_) fun _x _x h=>h);refine ze02 q fun e1 r1=>?_;clear q;subst r1;cases c
 ·simp at hx;exact zzwqm (hr A ids Wo env gh η kp s₁ v hA hE (hR.ext e1) hx) (fun c s₂ q=>⟨e1.trans q.1,q.2⟩) fun _x _x h=>h
 ·simp at hx;subst hx;exact zzwqp ⟨e1,rfl⟩
theorem zQh {es pos f}(h:SimTs g j fs .And es f):SimT g j fs (.BoolOp .And es pos) f:=by
 intro A ids Wo env gh η kp s v hA hE hR hx;exact wpAny_isTrue_BoolOp (h A ids Wo env gh η kp s v hA hE hR hx)
theorem zQw {es pos f}(h:SimTs g j fs .Or es f):SimT g j fs (.BoolOp .Or es pos) f:=by
 intro A ids Wo env gh η kp s v hA hE hR hx;exact wpAny_isTrue_BoolOp (h A ids Wo env gh η kp s v hA hE hR hx)
noncomputable def ite3 (t:List Slot→Option Bool)(f h:List Slot→Option V):List Slot→Option V:=fun η=>(t η).bind fun b=>if b=true then f η else h η
theorem zPP {t a b:Expr}{pos ft fa fb}(ht:SimT g j fs t ft)(ha:SimE g j fs a fa)(hb:SimE g j fs b fb):SimE g j fs (.IfExp t a b pos) (ite3 ft fa fb):=by
 intro A ids Wo env gh η kp s v hA hE hR hx;refine zbd hx fun c hf hx=>?_;refine wpAny_IfExp (zzwqm (ht A ids Wo env gh η kp s c hA hE hR hf) (fun c' s₁ q=>?_) fun _x _x h=>h);refine ze02 q fun e1 r1=>?_;clear q;subst r1;cases c'
 ·simp at hx ⊢;exact zzwqm (hb A ids Wo env gh η kp s₁ v hA hE (hR.ext e1) hx) (fun c s₂ q=>⟨e1.trans q.1,q.2⟩) fun _x _x h=>h
 ·simp at hx ⊢;exact zzwqm (ha A ids Wo env gh η kp s₁ v hA hE (hR.ext e1) hx) (fun c s₂ q=>⟨e1.trans q.1,q.2⟩) fun _x _x h=>h
end
mutual
noncomputable def py:V→PyData
 | .none=>.none
 | .bool b=>.bool b
 | .int i=>.int i
 | .str l=>.str (ms l)
 | .tup xs=>.tuple (pys xs)
 | .lst xs=>.list (pys xs)
 | .obj _=>.none
noncomputable def pys:List V→List PyData
 | []=>[]
 | x::xs=>py x::pys xs
end
mutual
noncomputable def noObj:V→Bool
 | .tup xs=>zAw xs
 | .lst xs=>zAw xs
 | .obj _=>false
 | _=>true
noncomputable def zAw:List V→Bool
 | []=>true
 | x::xs=>noObj x&&zAw xs
end
mutual
noncomputable def dep:V→Nat
 | .tup xs=>deps xs+1
 | .lst xs=>deps xs+1
 | _=>0
noncomputable def deps:List V→Nat
 | []=>0
 | x::xs=>max (dep x) (deps xs)
end
mutual
theorem zEZ:∀ x,(py x).depth=dep x
 | .none | .bool _ | .int _ | .str _ | .obj _=>by simp[py,dep,PyData.depth]
 | .tup xs=>by simp[py,dep,PyData.depth,zFP xs]
 | .lst xs=>by simp[py,dep,PyData.depth,zFP xs]
theorem zFP:∀ xs,PyData.depthAll (pys xs)=deps xs
 | []=>by simp[pys,deps,PyData.depthAll]
 | x::xs=>by simp[pys,deps,PyData.depthAll,zEZ x,zFP xs]
end
theorem R.readsB {ids h W}:(∀ {v:Value} {x:V},R ids h W v x→noObj x=true→(∃ as,Reads h v (py x) as)∧(py x).canLay0=true)∧∀ {vs:List Value} {xs:List V},RL ids h W vs xs→zAw xs=true→(∃ as,ReadsAll h vs (pys xs) as)∧PyData.canLayAll0 (pys xs)=true:=by
 refine R.ind (fun _x=>⟨⟨_,by rw[py];exact .none⟩,by simp[py,PyData.canLay0]⟩) (fun b _x=>⟨⟨_,by rw[py];exact .bool b⟩,by simp[py,PyData.canLay0]⟩) (fun i t _x=>⟨⟨_,by rw[py];exact .int i t⟩,by simp[py,PyData.canLay0]⟩)
  (fun l t hl _x _x=>⟨⟨_,by rw[py];exact .str _ t⟩,?_⟩) (fun _x _x _x h=>by simp[noObj] at h) (fun a vs xs _x ht _x ih h=>?_) (fun a vs xs _x ht _x ih h=>?_) (fun _x=>⟨⟨_,by rw[pys];exact .nil⟩,by simp[pys,PyData.canLayAll0]⟩) (fun v x vs xs i1 i2 h=>?_)
 ·simp only[py,PyData.canLay0,PyData.strOk];rw[Array.all_eq_true_iff_forall_mem];intro c hc;exact zzdet (hl c (by simpa using hc))
 ·refine ze13 ht fun o ho hc z4=>?_;clear ht;refine ze11 z4 fun n hd=>?_;clear z4;refine ze02 (ih h) fun z5 hl=>?_;refine ze11 z5 fun as ra=>?_;clear z5;exact⟨⟨_,by rw[py];exact .tuple ho hc hd (by simpa using ra)⟩,by simpa [py,PyData.canLay0] using hl⟩
 ·refine ze13 ht fun o ho hc z6=>?_;clear ht;refine ze11 z6 fun n hd=>?_;clear z6;refine ze02 (ih h) fun z0 hl=>?_;refine ze11 z0 fun as ra=>?_;clear z0;exact⟨⟨_,by rw[py];exact .list ho hc hd (by simpa using ra)⟩,by simpa [py,PyData.canLay0] using hl⟩
 ·simp only[zAw,Bool.and_eq_true] at h;refine ze02 (i1 h.1) fun z1 ha=>?_;refine ze11 z1 fun as ra=>?_;clear z1;refine ze02 (i2 h.2) fun z2 hb=>?_;refine ze11 z2 fun bs rb=>?_;clear z2;exact⟨⟨_,by rw[pys];exact .cons ra rb⟩,by simp[pys,PyData.canLayAll0,ha,hb]⟩
theorem R.reads {ids h W}{v:Value}{x:V}(r:R ids h W v x)(hn:noObj x=true):(∃ as,Reads h v (py x) as)∧(py x).canLay0=true:=R.readsB.1 r hn
theorem RL.reads {ids h W}{vs:List Value}{xs:List V}(r:RL ids h W vs xs)(hn:zAw xs=true):(∃ as,ReadsAll h vs (pys xs) as)∧PyData.canLayAll0 (pys xs)=true:=R.readsB.2 r hn
theorem RC.reads {g:GC}{ids h W}{v:Value}{x:V}:RC g ids h W v x→noObj x=true→(∃ as,Reads h v (py x) as)∧(py x).canLay0=true
 | .ofR r,h=>r.reads h
 | .own _ ⟨o,ho,hc,n,hd⟩ _ r,h=>by
  obtain⟨⟨as,ra⟩,hl⟩:=r.reads (by simpa [noObj] using h);exact⟨⟨_,by rw[py];exact .list ho hc hd (by simpa using ra)⟩,by simpa [py,PyData.canLay0] using hl⟩
noncomputable def on2 {α:Type}(fi:Int→Int→Option α)(fs:List Nat→List Nat→Option α)(fl:List V→List V→Option α)(gs:List Nat→Int→Option α)(gl gt:List V→Int→Option α)(x y:V):Option α:=match x with
 | .int a=>(match y with | .int b=>fi a b | _=>none)
 | .str a=>(match y with | .str b=>fs a b | .int b=>gs a b | _=>none)
 | .lst a=>(match y with | .lst b=>fl a b | .int b=>gl a b | _=>none)
 | .tup a=>(match y with | .int b=>gt a b | _=>none)
 | _=>none
inductive On2 {α:Type}(fi:Int→Int→Option α)(fs:List Nat→List Nat→Option α)(fl:List V→List V→Option α)(gs:List Nat→Int→Option α)(gl gt:List V→Int→Option α)(r:α):V→V→Prop
 | ii {a b} (h:fi a b=some r):On2 fi fs fl gs gl gt r (.int a) (.int b)
 | ss {a b} (h:fs a b=some r):On2 fi fs fl gs gl gt r (.str a) (.str b)
 | ll {a b} (h:fl a b=some r):On2 fi fs fl gs gl gt r (.lst a) (.lst b)
 | si {a b} (h:gs a b=some r):On2 fi fs fl gs gl gt r (.str a) (.int b)
 | li {a b} (h:gl a b=some r):On2 fi fs fl gs gl gt r (.lst a) (.int b)
 | ti {a b} (h:gt a b=some r):On2 fi fs fl gs gl gt r (.tup a) (.int b)
theorem zAF {α:Type}{fi fs fl gs gl gt}{r:α}{x y:V}(h:on2 fi fs fl gs gl gt x y=some r):On2 fi fs fl gs gl gt r x y:=by
 cases x with
 | int a=>cases y with
  | int b=>exact .ii h
  | _=>exact noneE h
 | str a=>cases y with
  | str b=>exact .ss h
  | int b=>exact .si h
  | _=>exact noneE h
 | lst a=>cases y with
  | lst b=>exact .ll h
  | int b=>exact .li h
  | _=>exact noneE h
 | tup a=>cases y with
  | int b=>exact .ti h
  | _=>exact noneE h
 | _=>exact noneE h
noncomputable abbrev no2 {α β γ:Type}:α→β→Option γ:=fun _ _=>none
theorem zAl {c:Prop}[Decidable c]{α:Type}{a:Option α}{r:α}(h:(if c then a else none)=some r):c∧a=some r:=by
 by_cases hc:c
 ·exact⟨hc,(if_pos hc).symm.trans h⟩
 ·rw[if_neg hc] at h;exact noneE h
noncomputable def asInt:V→Option Int
 | .int a=>some a
 | _=>none
theorem zAS {x:V}{a:Int}(h:asInt x=some a):x=.int a:=by
 cases x with
 | int b=>cases h;rfl
 | _=>exact noneE h
noncomputable def asLst:V→Option (List V)
 | .lst a=>some a
 | _=>none
theorem zGB {x:V}{a:List V}(h:asLst x=some a):x=.lst a:=by
 cases x with
 | lst b=>cases h;rfl
 | _=>exact noneE h
noncomputable def asStr:V→Option (List Nat)
 | .str a=>some a
 | _=>none
theorem zAv {x:V}{a:List Nat}(h:asStr x=some a):x=.str a:=by
 cases x with
 | str b=>cases h;rfl
 | _=>exact noneE h
noncomputable def asTup:V→Option (List V)
 | .tup a=>some a
 | _=>none
theorem zGA {x:V}{a:List V}(h:asTup x=some a):x=.tup a:=by
 cases x with
 | tup b=>cases h;rfl
 | _=>exact noneE h
theorem zEv {k:Int}:asInt (.int k)=some k:=rfl
noncomputable def eqV (x y:V):Option Bool:=if (noObj x&&noObj y&&decide (min (dep x) (dep y)≤8))=true then some ((py x).eqv (py y)) else none
mutual
theorem eqv_refl:∀ x,noObj x=true→(py x).eqv (py x)=true
 | .none,_ | .bool _,_ | .int _,_ | .str _,_=>by simp[py,PyData.eqv]
 | .obj _,h=>by simp[noObj] at h
 | .tup xs,h=>by simp only[py,PyData.eqv];exact zEp xs (by simpa [noObj] using h)
 | .lst xs,h=>by simp only[py,PyData.eqv];exact zEp xs (by simpa [noObj] using h)
theorem zEp:∀ xs,zAw xs=true→PyData.eqvAll (pys xs) (pys xs)=true
 | [],_=>by simp[pys,PyData.eqvAll]
 | x::xs,h=>by
  simp only[zAw,Bool.and_eq_true] at h;simp[pys,PyData.eqvAll,eqv_refl x h.1,zEp xs h.2]
end
theorem zH5 {x y:V}{b:Bool}(h:eqV x y=some b):noObj x=true∧noObj y=true∧min (dep x) (dep y)≤8∧(py x).eqv (py y)=b:=by
 refine ze02 (zAl h) fun hc h=>?_;refine ze02 (Bool.and_eq_true_iff.mp hc) fun hc h3=>?_;refine ze02 (Bool.and_eq_true_iff.mp hc) fun h1 h2=>?_;exact⟨h1,h2,of_decide_eq_true h3,Option.some.inj h⟩
theorem zH6 {x:V}(h:noObj x=true)(hd:dep x≤8):eqV x x=some true:=(if_pos (by simp[h,hd])).trans (congrArg some (eqv_refl _ h))
theorem AOk.room {j A}(h:AOk j A){n:Nat}(hn:n≤4000):A.units+n<cLine:=by
 have:=h.2.2;have e:cLine=9900:=rfl;exact zn75 this e hn
section
variable {g:GC} {j:Nat} {fs:FS}
theorem Cmp2.eq:Cmp2 g j .Eq eqV:=by
 intro A ids W s a b x y r hA hW _ ra rb h;refine ze04 (zH5 h) fun h1 h2 h3 h4=>?_;refine ze02 (ra.reads h1) fun z3 la=>?_;refine ze11 z3 fun as qa=>?_;clear z3;refine ze02 (rb.reads h2) fun z4 lb=>?_;refine ze11 z4 fun bs qb=>?_;clear z4;refine PySem.SeqAt.compareEq_reads qa qb la lb ?_ ⟨Ext.refl _,by rw[h4]⟩;rw[zEZ,zEZ];exact hA.room (zznlt h3 (zznal _ _))
theorem Cmp2.ne:Cmp2 g j .NotEq (fun x y=>(eqV x y).map not):=by
 intro A ids W s a b x y r hA hW _ ra rb h;refine ze12 (Option.map_eq_some_iff.mp h) fun r' h' e=>?_;clear h;subst e;have h:=h';clear h'
 try dsimp only at h
 refine ze04 (zH5 h) fun h1 h2 h3 h4=>?_;refine ze02 (ra.reads h1) fun z5 la=>?_;refine ze11 z5 fun as qa=>?_;clear z5;refine ze02 (rb.reads h2) fun z6 lb=>?_;refine ze11 z6 fun bs qb=>?_;clear z6;refine PySem.SeqAt.compareNe_reads qa qb la lb ?_ ⟨Ext.refl _,by rw[h4]⟩;rw[zEZ,zEZ];exact hA.room (zznlt h3 (zznal _ _))
noncomputable def inL (x:V)(ys:List V):Option Bool:=if (noObj x&&zAw ys&&decide (min (deps ys) (dep x)≤8))=true then some ((pys ys).any fun y=>y.eqv (py x)) else none
noncomputable def inV (x y:V):Option Bool:=match y with
 | .str b=>(match x with
  | .str a=>some (!(Builtin.Str.occurrences (ms b) (ms a) 0 b.length 1).isEmpty)
  | _=>none)
 | .lst ys=>inL x ys
 | .tup ys=>inL x ys
 | _=>none
theorem zFv {x:V}{ys:List V}{r:Bool}(h:inL x ys=some r):noObj x=true∧zAw ys=true∧min (deps ys) (dep x)≤8∧((pys ys).any fun y=>y.eqv (py x))=r:=by
 refine ze02 (zAl h) fun hc h=>?_;refine ze02 (Bool.and_eq_true_iff.mp hc) fun hc h3=>?_;refine ze02 (Bool.and_eq_true_iff.mp hc) fun h1 h2=>?_;exact⟨h1,h2,of_decide_eq_true h3,Option.some.inj h⟩
theorem zFu {A:Around}{j:Nat}{x:V}{ys:List V}(hA:AOk j A)(h:min (deps ys) (dep x)≤8):A.units+1+min (PyData.depthAll (pys ys)) (py x).depth<cLine:=by
 rw[zEZ,zFP];exact zznlu (Nat.add_le_add_left h _) (hA.room (n:=9) (zznal _ _))
theorem zO2:Cmp2 g j .In inV:=by
 intro A ids W s a b x y r hA hW _ ra rb h;cases y with
 | str l=>
  cases x with
  | str k=>
   cases h;refine ze12 ra.str fun t z0 _=>?_;subst z0;refine ze12 rb.str fun u z1 _=>?_;subst z1;refine in_str ⟨Ext.refl _,?_⟩;simp[Str.length]
  | _=>exact noneE h
 | lst ys=>
  refine ze04 (zFv h) fun h1 h2 h3 h=>?_;subst h;refine ze02 (ra.reads h1) fun z2 la=>?_;refine ze11 z2 fun as qa=>?_;clear z2;refine ze02 (rb.reads (x:=.lst ys) h2) fun z3 lb=>?_;refine ze11 z3 fun bs qb=>?_;clear z3;exact PySem.SeqAt.in_list_reads qb qa lb la (zFu hA h3) ⟨Ext.refl _,rfl⟩
 | tup ys=>
  refine ze04 (zFv h) fun h1 h2 h3 h=>?_;subst h;refine ze02 (ra.reads h1) fun z4 la=>?_;refine ze11 z4 fun as qa=>?_;clear z4;refine ze02 (rb.reads (x:=.tup ys) h2) fun z5 lb=>?_;refine ze11 z5 fun bs qb=>?_;clear z5;exact PySem.SeqAt.in_tuple_reads qb qa lb la (zFu hA h3) ⟨Ext.refl _,rfl⟩
 | _=>exact noneE h
theorem zPk:Cmp2 g j .NotIn (fun x y=>(inV x y).map not):=by
 intro A ids W s a b x y r hA hW _ ra rb h;refine ze12 (Option.map_eq_some_iff.mp h) fun r' h' e=>?_;clear h;subst e;have h:=h';clear h';cases y with
 | str l=>
  cases x with
  | str k=>
   cases h;refine ze12 ra.str fun t z6 _=>?_;subst z6;refine ze12 rb.str fun u z0 _=>?_;subst z0;refine notIn_str ⟨Ext.refl _,?_⟩;simp[Str.length]
  | _=>exact noneE h
 | lst ys=>
  refine ze04 (zFv h) fun h1 h2 h3 h=>?_;subst h;refine ze02 (ra.reads h1) fun z1 la=>?_;refine ze11 z1 fun as qa=>?_;clear z1;refine ze02 (rb.reads (x:=.lst ys) h2) fun z2 lb=>?_;refine ze11 z2 fun bs qb=>?_;clear z2;exact PySem.SeqAt.notIn_list_reads qb qa lb la (zFu hA h3) ⟨Ext.refl _,rfl⟩
 | tup ys=>
  refine ze04 (zFv h) fun h1 h2 h3 h=>?_;subst h;refine ze02 (ra.reads h1) fun z3 la=>?_;refine ze11 z3 fun as qa=>?_;clear z3;refine ze02 (rb.reads (x:=.tup ys) h2) fun z4 lb=>?_;refine ze11 z4 fun bs qb=>?_;clear z4;exact PySem.SeqAt.notIn_tuple_reads qb qa lb la (zFu hA h3) ⟨Ext.refl _,rfl⟩
 | _=>exact noneE h
noncomputable def ltV:V→V→Option Bool:=on2 (fun a b=>some (decide (a<b))) (fun a b=>some (decide (a<b))) no2 no2 no2 no2
noncomputable def leV:V→V→Option Bool:=on2 (fun a b=>some (decide (a≤b))) (fun a b=>some (!decide (b<a))) no2 no2 no2 no2
theorem Cmp2.lt:Cmp2 g j .Lt ltV:=by
 intro A ids W s a b x y r hA hW _ ra rb h;replace h:=zAF h;cases h with
 | ii h=>cases h;obtain⟨t,rfl⟩:=ra.int;obtain⟨u,rfl⟩:=rb.int;exact lt_int ⟨Ext.refl _,rfl⟩
 | ss h=>cases h;obtain⟨t,rfl,_⟩:=ra.str;obtain⟨u,rfl,_⟩:=rb.str;exact lt_str ⟨Ext.refl _,by simp⟩
 | _ h=>exact noneE h
theorem Cmp2.le:Cmp2 g j .LtE leV:=by
 intro A ids W s a b x y r hA hW _ ra rb h;replace h:=zAF h;cases h with
 | ii h=>cases h;obtain⟨t,rfl⟩:=ra.int;obtain⟨u,rfl⟩:=rb.int;exact le_int ⟨Ext.refl _,rfl⟩
 | ss h=>cases h;obtain⟨t,rfl,_⟩:=ra.str;obtain⟨u,rfl,_⟩:=rb.str;exact PySem.P.le_str ⟨Ext.refl _,by simp⟩
 | _ h=>exact noneE h
theorem zPD:Cmp2 g j .Gt (fun x y=>ltV y x):=by
 intro A ids W s a b x y r hA hW _ ra rb h;replace h:=zAF h;cases h with
 | ii h=>cases h;obtain⟨t,rfl⟩:=ra.int;obtain⟨u,rfl⟩:=rb.int;exact gt_int ⟨Ext.refl _,rfl⟩
 | ss h=>cases h;obtain⟨t,rfl,_⟩:=ra.str;obtain⟨u,rfl,_⟩:=rb.str;exact PySem.P.gt_str ⟨Ext.refl _,by simp⟩
 | _ h=>exact noneE h
theorem zPE:Cmp2 g j .GtE (fun x y=>leV y x):=by
 intro A ids W s a b x y r hA hW _ ra rb h;replace h:=zAF h;cases h with
 | ii h=>cases h;obtain⟨t,rfl⟩:=ra.int;obtain⟨u,rfl⟩:=rb.int;exact ge_int ⟨Ext.refl _,rfl⟩
 | ss h=>cases h;obtain⟨t,rfl,_⟩:=ra.str;obtain⟨u,rfl,_⟩:=rb.str;exact PySem.P.ge_str ⟨Ext.refl _,by simp⟩
 | _ h=>exact noneE h
end
section
variable {g:GC} {j:Nat} {fs:FS}
noncomputable def idOf:V→Option (Option Nat)
 | .obj m=>some (some m)
 | .str _=>some none
 | .int _=>some none
 | .bool _=>some none
 | .none=>some none
 | _=>none
noncomputable def isN (x y:Option (Option Nat)):Option Bool:=
 x.bind fun a=>y.bind fun b=>a.elim (b.elim none fun _=>some false) fun m=>b.elim (some false) fun n=>some (decide (m=n))
noncomputable def isV (x y:V):Option Bool:=isN (idOf x) (idOf y)
theorem zJy {l:List Addr}(h:l.Nodup){m n:Nat}{a:Addr}(hm:l[m]? = some a)(hn:l[n]? = some a):m=n:=by
 refine ze11 (List.getElem?_eq_some_iff.mp hm) fun h1 e1=>?_;refine ze11 (List.getElem?_eq_some_iff.mp hn) fun h2 e2=>?_;exact(List.getElem_inj h).mp (e1.trans e2.symm)
inductive IsAs (g:GC)(s:Shared):Value→Value→Bool→Prop
 | same {p:Addr}:IsAs g s (.ref p) (.ref p) true
 | other {p q:Addr} {o o':Obj} (h:p≠q) (ho:s.heap.get? p=some o) (ho':s.heap.get? q=some o') (hc:o.cls≠.type "tuple"):IsAs g s (.ref p) (.ref q) false
 | plain {a b:Value} (h:plainIs a b=true) (hb:(a==b)=false):IsAs g s a b false
theorem zFx {x:V}{m:Nat}(h:idOf x=some (some m)):x=.obj m:=by
 cases x with
 | obj n=>cases h;rfl
 | _=>cases h
theorem zEO {x:V}{ids W}{s:Shared}{v:Value}(h:idOf x=some none)(r:RC g ids s.heap W v x)(p:Addr):
  (plainIs (.ref p) v=true∧(Value.ref p==v)=false)∧plainIs v (.ref p)=true∧(v==.ref p)=false:=by
 cases x with
 | str l=>obtain⟨t,rfl,_,_⟩:=r.str;exact⟨⟨rfl,rfl⟩,rfl,rfl⟩
 | int l=>obtain⟨t,rfl⟩:=r.int;exact⟨⟨rfl,rfl⟩,rfl,rfl⟩
 | bool l=>cases r.bool;exact⟨⟨rfl,rfl⟩,rfl,rfl⟩
 | none=>cases r.none;exact⟨⟨rfl,rfl⟩,rfl,rfl⟩
 | _=>cases h
theorem zLO {ids W}{s:Shared}{a b:Value}{x y:V}{r:Bool}(hi:IdsOk ids s.heap)(ra:RC g ids s.heap W a x)(rb:RC g ids s.heap W b y)(h:isV x y=some r):IsAs g s a b r:=by
 refine zbd h fun u hx h=>?_;refine zbd h fun v hy h=>?_;cases u with
 | some m=>
  cases zFx hx;refine ze12 ra.obj fun p z5 hp=>?_;subst z5;cases v with
  | some n=>
   cases zFx hy;refine ze12 rb.obj fun q z6 hq'=>?_;subst z6;cases h;by_cases e:m=n
   ·subst e;rw[hp] at hq';cases hq';rw[decide_eq_true rfl];exact .same
   ·refine ze12 (hi.there _ _ hp) fun o ho hc=>?_;refine ze12 (hi.there _ _ hq') fun o' ho' _=>?_;rw[decide_eq_false e];exact .other (fun q=>e (zJy hi.nodup hp (q▸hq'))) ho ho' hc
  | none=>cases h;have:=(zEO hy rb p).1;exact .plain this.1 this.2
 | none=>
  cases v with
  | some n=>
   cases zFx hy;refine ze12 rb.obj fun q z0 hq'=>?_;subst z0;cases h;have:=(zEO hx ra q).2;exact .plain this.1 this.2
  | none=>exact noneE h
theorem Cmp2.is:Cmp2 g j .Is isV:=by
 intro A ids W s a b x y r hA hW hi ra rb h;cases zLO hi ra rb h with
 | same=>exact wpAny_is_ref_self ⟨Ext.refl _,rfl⟩
 | other hn ho ho' hc=>exact wpAny_is_ref_other hn ho ho' hc ⟨Ext.refl _,rfl⟩
 | plain hn hb=>exact wpAny_is_plain hn ⟨Ext.refl _,by rw[hb]⟩
theorem zO4:Cmp2 g j .IsNot (fun x y=>(isV x y).map not):=by
 intro A ids W s a b x y r hA hW hi ra rb h;refine ze12 (Option.map_eq_some_iff.mp h) fun r' h' e=>?_;subst e;cases zLO hi ra rb h' with
 | same=>exact wpAny_isNot_ref_self ⟨Ext.refl _,rfl⟩
 | other hn ho ho' hc=>exact wpAny_isNot_ref_other hn ho ho' hc ⟨Ext.refl _,rfl⟩
 | plain hn hb=>exact wpAny_isNot_plain hn ⟨Ext.refl _,by rw[hb]⟩
noncomputable def truV (x:V):Option Bool:=match x with
 | .bool b=>some b
 | .str l=>some (!l.isEmpty)
 | .lst l=>some (!l.isEmpty)
 | _=>none
theorem zBu {n:Nat}(h:n≤sizeLine):(n:Int)<2^63:=by
 have:sizeLine=16777216:=rfl;lia
theorem zIQ {A:Around}{ids W}{s:Shared}{a:Value}{x:V}{b:Bool}{Q:Bool→Shared→Prop}(hP:W g.P)(ra:RC g ids s.heap W a x)(h:truV x=some b)(hq:∀ k,s.toks≤k→Q b {s with toks:=k}):
  wpAny (model g.prog g.w) A (truthy a) Q Fl s:=by
 cases x with
 | bool c=>cases h;cases ra.bool;exact wpAny_truthy_bool (hq s.toks (zznlr _))
 | str l=>
  cases h;refine ze13 ra.str fun t z1 _ hz=>?_;subst z1;refine PySem.P.truthy_str (by have:=zBu hz;simp[Str.length] at this ⊢;exact this) ?_;have e:(((ms l).length:Int) != 0) = !l.isEmpty:=by cases l<;>simp[Str.length]<;>exact zn79
  rw[e];exact hq _ (zznar _ 2)
 | lst l=>
  cases h;refine ze25 (ra.lst hP) fun a' vs z2 hl _ r hz=>?_;subst z2;refine wpAny_truthy_list hl (by have:=zBu hz;have:=r.length;simp;lia) ?_;have e:(!vs.toArray.isEmpty) = !l.isEmpty:=by cases r<;>simp
  rw[e];exact hq _ (zznar _ 2)
 | _=>exact noneE h
noncomputable def tT (f:List Slot→Option V):List Slot→Option Bool:=fun η=>(f η).bind truV
theorem SimT.val {e:Expr}{f}(h:SimC g j fs e f)(hs:∀ env whole,isTrue e env whole=(do let v ←whole;standAt e.pos;holding [v] (truthy v))):SimT g j fs e (tT f):=by
 intro A ids Wo env gh η kp s v hA hE hR hx;refine zbd hx fun x hf hx=>?_;refine wpAny_isTrue_value (zzwqm (h A ids Wo env gh η kp s x hA hE hR hf) (fun a s₁ q=>?_) fun _x _x h=>h) (hs _ _);refine ze02 q fun e1 r1=>?_;clear q;exact zIQ Wt_P r1 hx fun k _x=>⟨e1.trans (Ext.toks ..),rfl⟩
theorem zQk {l r:Expr}{op pos f h o}(hl:SimC g j fs l f)(hr:SimC g j fs r h)(ho:Cmp2 g j op o)(hb:behindInMarks op r=false):SimE g j fs (.Compare l [op] [r] pos) (fun η=>(t2 f h o η).map .bool):=by
 intro A ids Wo env gh η kp s v hA hE hR hx;refine ze12 (Option.map_eq_some_iff.mp hx) fun b hx' z3=>?_;subst z3;refine zbd hx' fun x hf hx=>?_;refine zbd hx fun y hh hx=>?_;have hm:markedBehindIn op r (eval r env)=eval r env:=by unfold markedBehindIn;rw[hb]
 show wpAny _ A (do compareChain pos (←eval l env) [op] [markedBehindIn op r (eval r env)]) _ _ s;rw[hm];refine zzwqb (zzwqm (hl A ids Wo env gh η kp s x hA hE hR hf) (fun a s₁ q=>?_) fun _x _x h=>h);refine ze02 q fun e1 r1=>?_;clear q;show wpAny _ A (do let rv ←holding [a] (eval r env);standAt pos;operate [a,rv] (compareOp op a rv)) _ _ s₁;refine zzwqb (wpAny_holding (zzwqm (hr A ids Wo env gh η kp s₁ y hA hE (hR.ext e1) hh) (fun b' s₂ q=>?_) fun _x _x h=>h));refine ze02 q fun e2 r2=>?_;clear q;refine zzwqb (wpAny_standAt (wpAny_operate' ?_));refine zzwqm (ho A ids _ s₂ a b' x y b hA (hR.wok.ext (e1.trans e2)) (hR.ext (e1.trans e2)).idok (r1.ext e2 Wt_P) r2 hx) (fun c s₃ q=>?_) fun _x _x h=>h;refine ze02 q fun e3 r3=>?_;clear q;subst r3;exact⟨(e1.trans e2).trans e3,.bool _⟩
noncomputable def zEF (f h k:List Slot→Option V)(o p:V→V→Option Bool):List Slot→Option Bool:=
 fun η=>(f η).bind fun x=>(h η).bind fun y=>(o x y).bind fun b=>if b=true then (k η).bind fun z=>p y z else some false
theorem zPL {l r q:Expr}{op op2 pos f h k o p}(hl:SimC g j fs l f)(hr:SimC g j fs r h)(hq:SimC g j fs q k)(ho:Cmp2 g j op o)(hp:Cmp2 g j op2 p)(hb:lastMarks [op,op2] [r,q]=false):
  SimT g j fs (.Compare l [op,op2] [r,q] pos) (zEF f h k o p):=by
 intro A ids Wo env gh η kp s v hA hE hR hx;refine zbd hx fun x hf hx=>?_;refine zbd hx fun y hh hx=>?_;refine zbd hx fun b hb' hx=>?_;refine isTrue_chain (zzwqm (hl A ids Wo env gh η kp s x hA hE hR hf) (fun a s₁ q=>?_) fun _x _x h=>h) hb;refine ze02 q fun e1 r1=>?_;clear q;show wpAny _ A (do
  let rv ←holding [a] (eval r env)
  standAt pos
  let c ←holding [a,rv] (compareOp op a rv)
  release [a,rv] [c]
  if ←holding [c,rv] (truthy c) then testChain pos rv [op2] [eval q env] else pure false) _ _ s₁
 refine zzwqb (wpAny_holding (zzwqm (hr A ids Wo env gh η kp s₁ y hA hE (hR.ext e1) hh) (fun b' s₂ q=>?_) fun _x _x h=>h));refine ze02 q fun e2 r2=>?_;clear q;refine zzwqb (wpAny_standAt (zzwqb (wpAny_holding ?_)));refine zzwqm (ho A ids _ s₂ a b' x y b hA (hR.wok.ext (e1.trans e2)) (hR.ext (e1.trans e2)).idok (r1.ext e2 Wt_P) r2 hb') (fun c s₃ q=>?_) fun _x _x h=>h;refine ze02 q fun e3 r3=>?_;clear q;subst r3;refine zzwqb (wpAny_release (zzwqb (wpAny_holding (wpAny_truthy_bool ?_))));have e123:=(e1.trans e2).trans e3;cases b
 ·simp at hx ⊢;subst hx;exact zzwqp ⟨e123,rfl⟩
 ·simp only[if_true] at hx ⊢;refine zbd hx fun z hz hx=>?_;show wpAny _ A (do
   let rv ←holding [b'] (eval q env)
   standAt pos
   let c ←operate [b',rv] (compareOp op2 b' rv)
   holding [c] (truthy c)) _ _ s₃
  refine zzwqb (wpAny_holding (zzwqm (hq A ids Wo env gh η kp s₃ z hA hE (hR.ext e123) hz) (fun q' s₄ q=>?_) fun _x _x h=>h));refine ze02 q fun e4 r4=>?_;clear q;refine zzwqb (wpAny_standAt (zzwqb (wpAny_operate' ?_)));refine zzwqm (hp A ids _ s₄ b' q' y z v hA (hR.wok.ext (e123.trans e4)) (hR.ext (e123.trans e4)).idok (r2.ext (e3.trans e4) Wt_P) r4 hx) (fun c s₅ q=>?_) fun _x _x h=>h;refine ze02 q fun e5 r5=>?_;clear q;subst r5;exact wpAny_holding (wpAny_truthy_bool ⟨(e123.trans e4).trans e5,rfl⟩)
theorem zQi {e:Expr}{pos f}(h:SimC g j fs e f):SimE g j fs (.UnaryOp .USub e pos) (fun η=>(f η).bind fun x=>match x with | .int i=>some (.int (-i)) | _=>none):=by
 intro A ids Wo env gh η kp s v hA hE hR hx;refine zbd hx fun x hf hx=>?_;refine wpAny_UnaryOp (zzwqm (h A ids Wo env gh η kp s x hA hE hR hf) (fun a s₁ q=>?_) fun _x _x h=>h);refine ze02 q fun e1 r1=>?_;clear q;cases x with
 | int i=>
  cases hx;refine ze11 r1.int fun t z4=>?_;subst z4;exact neg_int ⟨e1.trans (Ext.toks ..),.int _ _⟩
 | _=>exact noneE hx
noncomputable def SimEs (g:GC)(j:Nat)(fs:FS)(op:BoolOp)(pos:Pos)(es:List Expr)(f:List Slot→Option V):Prop:=
 ∀ (A:Around) (ids:List Addr) (Wo:Addr→Prop) (env:Env) (gh:Gh) (η:List Slot) (kp:Addr→Option Obj) (s:Shared) (x:V),
  AOk j A→EnvOk fs env→Rel g ids Wo env fs.vm gh η kp s→f η=some x→
  wpAny (model g.prog g.w) A (boolOp pos op (evalEach es env)) (PE g ids (Wt g Wo env gh η) s x) Fl s
theorem SimEs.one {op pos e f}(h:SimE g j fs e f):SimEs g j fs op pos [e] f:=by
 intro A ids Wo env gh η kp s v hA hE hR hx;exact h A ids Wo env gh η kp s v hA hE hR hx
noncomputable def bAnd (f h:List Slot→Option V):List Slot→Option V:=fun η=>(f η).bind fun x=>(truV x).bind fun b=>if b=true then h η else some x
theorem SimEs.and {pos e e2 es f h}(he:SimE g j fs e f)(hr:SimEs g j fs .And pos (e2::es) h):SimEs g j fs .And pos (e::e2::es) (bAnd f h):=by
 intro A ids Wo env gh η kp s v hA hE hR hx;refine zbd hx fun x hf hx=>?_;refine zbd hx fun b hb hx=>?_;show wpAny _ A (do
  let v ←eval e env
  standAt pos
  let t ←holding [v] (truthy v)
  match BoolOp.And,t with
  | .And,false | .Or,true=>pure v
  | _,_=>boolOp pos .And (evalEach (e2::es) env)) _ _ s
 refine zzwqb (zzwqm (he A ids Wo env gh η kp s x hA hE hR hf) (fun a s₁ q=>?_) fun _x _x h=>h);refine ze02 q fun e1 r1=>?_;clear q;refine zzwqb (wpAny_standAt (zzwqb (wpAny_holding (zIQ (W:=Wt g Wo env gh η) (ids:=ids) Wt_P (.ofR r1) hb fun k hk=>?_))));have ek:Ext g s {s₁ with toks:=k}:=e1.trans (Ext.toks ..);cases b
 ·simp at hx ⊢;subst hx;exact zzwqp ⟨ek,r1⟩
 ·simp at hx ⊢;exact zzwqm (hr A ids Wo env gh η kp _ v hA hE (hR.ext ek) hx) (fun c s₂ q=>⟨ek.trans q.1,q.2⟩) fun _x _x h=>h
theorem zPS {op es pos f}(h:SimEs g j fs op pos es f):SimE g j fs (.BoolOp op es pos) f:=by
 intro A ids Wo env gh η kp s v hA hE hR hx;exact h A ids Wo env gh η kp s v hA hE hR hx
end
theorem R.fresh_lst {g:GC}{ids W}{s:Shared}{vs:List Value}{xs:List V}(hW:Wok g W s)(r:RL ids s.heap W vs xs)(hz:xs.length≤sizeLine):
  R ids (s.heap.push {cls:=.type "list",data:=.seq vs.toArray}) W (.ref s.heap.objs.size) (.lst xs):=
 .lst _ vs xs hz ⟨_,Heap.get?_push_size _ rfl,rfl,0,rfl⟩ (hW.fresh (zznlr _)) (r.keeps fun _x _x _x e=>Heap.get?_push_of_some _ e)
theorem R.fresh_tup {g:GC}{ids W}{s:Shared}{vs:List Value}{xs:List V}(hW:Wok g W s)(r:RL ids s.heap W vs xs)(hz:xs.length≤sizeLine):
  R ids (s.heap.push {cls:=.type "tuple",data:=.seq vs.toArray}) W (.ref s.heap.objs.size) (.tup xs):=
 .tup _ vs xs hz ⟨_,Heap.get?_push_size _ rfl,rfl,0,rfl⟩ (hW.fresh (zznlr _)) (r.keeps fun _x _x _x e=>Heap.get?_push_of_some _ e)
theorem zAY {α:Type}(n:Nat)(l:List α):((List.replicate n l).flatten).length=n*l.length:=by simp[List.length_flatten]
theorem RL.rep {ids h W}{vs:List Value}{xs:List V}(r:RL ids h W vs xs):∀ n,RL ids h W (List.replicate n vs).flatten (List.replicate n xs).flatten
 | 0=>.nil
 | n+1=>by simpa [List.replicate_succ] using r.append (r.rep n)
section
variable {g:GC} {j:Nat} {fs:FS}
noncomputable def addT (a b:List Nat):Option V:=if a.length+b.length≤sizeLine then some (.str (a++b)) else none
noncomputable def addV:V→V→Option V:=on2 (fun a b=>some (.int (a+b))) addT (fun a b=>if a.length+b.length≤sizeLine then some (.lst (a++b)) else none) no2 no2 no2
theorem zBw (a b:List Nat):ms a++ms b=ms (a++b):=by
 show Str.append _ _=_;simp[Str.append]
theorem zL6 {ids h W}{a b:List Nat}{t:Tok}(c1:∀ c∈a,c<1114112)(c2:∀ c∈b,c<1114112)(hz:a.length+b.length≤sizeLine):R ids h W (.str (ms (a++b)) t) (.str (a++b)):=
 .str _ _ (fun c hc=>(List.mem_append.mp hc).elim (c1 c) (c2 c)) (List.length_append▸hz)
theorem Op2.add:Op2 g j (binaryOp .Add) addV:=by
 intro A ids W s a b x y r hA hW ra rb h;replace h:=zAF h;cases h with
 | ii h=>cases h;obtain⟨t,rfl⟩:=ra.int;obtain⟨u,rfl⟩:=rb.int;exact add_int ⟨Ext.toks ..,.int _ _⟩
 | ss h=>
  refine ze02 (zAl h) fun hz h=>?_;cases h;obtain⟨t,rfl,c1,_⟩:=ra.str;obtain⟨u,rfl,c2,_⟩:=rb.str;refine up (add_str (fun t' tk hk=>⟨Ext.toks ..,?_⟩) (by simpa [Str.length] using hz));rw[zBw];exact zL6 c1 c2 hz
 | ll h=>
  refine ze02 (zAl h) fun hz h=>?_;cases h;refine ze25 (ra.lst hW.P) fun l vs z5 hl _ r1 _=>?_;subst z5;refine ze25 (rb.lst hW.P) fun b' ws z6 hb _ r2 _=>?_;subst z6;obtain⟨⟨cls,dd,data,sl⟩,ho,hc,n,hd⟩:=id hl;obtain⟨⟨cls2,dd2,data2,sl2⟩,ho2,hc2,n2,hd2⟩:=id hb;simp only at hc hd hc2 hd2;subst hc hd hc2 hd2;have e:vs.toArray++ws.toArray=(vs++ws).toArray:=by simp
  refine concat_meets ⟨_,ho,rfl⟩ ⟨_,ho2,rfl⟩ noFill_list_add seq_list_add PySem.F.slot_list_add PySem.F.entry_list_add (PySem.F.args_list_add_2 _ _) (list_addW l b' vs.toArray ws.toArray n n2 dd dd2 sl sl2 (by
   have:=r1.length;have:=r2.length;simp;exact zn80 hz (by assumption) this)) ⟨ho,ho2,?_⟩
  rw[e];exact⟨Ext.push _,R.fresh_lst hW (r1.append r2) (by simpa using hz)⟩
 | _ h=>exact noneE h
noncomputable def subV:V→V→Option V:=on2 (fun a b=>some (.int (a-b))) no2 no2 no2 no2 no2
theorem Op2.sub:Op2 g j (binaryOp .Sub) subV:=by
 intro A ids W s a b x y r hA hW ra rb h;replace h:=zAF h;cases h with
 | ii h=>cases h;obtain⟨t,rfl⟩:=ra.int;obtain⟨u,rfl⟩:=rb.int;exact sub_int ⟨Ext.toks ..,.int _ _⟩
 | _ h=>exact noneE h
noncomputable def modV:V→V→Option V:=on2 (fun a b=>if b≠0 then some (.int (a.fmod b)) else none) no2 no2 no2 no2 no2
theorem Op2.mod:Op2 g j (binaryOp .Mod) modV:=by
 intro A ids W s a b x y r hA hW ra rb h;replace h:=zAF h;cases h with
 | ii h=>obtain⟨hb,h⟩:=zAl h;cases h;obtain⟨t,rfl⟩:=ra.int;obtain⟨u,rfl⟩:=rb.int;exact mod_int' hb ⟨Ext.toks ..,.int _ _⟩
 | _ h=>exact noneE h
noncomputable def fdivV:V→V→Option V:=on2 (fun a b=>if b≠0∧b.natAbs<2^200 then some (.int (a.fdiv b)) else none) no2 no2 no2 no2 no2
theorem zJb (a:Int){b:Int}(h:b.natAbs<2^200):Builtin.divisionGoesByPylong a b=false:=by
 unfold Builtin.divisionGoesByPylong;have:b.natAbs.log2<200∨b.natAbs=0:=by
  by_cases h0:b.natAbs=0
  ·exact .inr h0
  ·exact .inl ((Nat.log2_lt h0).mpr h)
 have e:(if (b==0)=true then 0 else b.natAbs.log2/30+1)≤300:=by
  split
  ·exact Nat.zero_le _
  ·rcases this with h | h
   ·exact zn82 h
   ·simp[h]
 simp only[Bool.and_eq_false_iff,decide_eq_false_iff_not];left;exact Nat.not_lt.mpr e
theorem Op2.fdiv:Op2 g j (binaryOp .FloorDiv) fdivV:=by
 intro A ids W s a b x y r hA hW ra rb h;replace h:=zAF h;cases h with
 | ii h=>obtain⟨hb,h⟩:=zAl h;cases h;obtain⟨t,rfl⟩:=ra.int;obtain⟨u,rfl⟩:=rb.int;exact floordiv_int hb.1 ⟨Ext.toks ..,.int _ _⟩ (.inl (zJb _ hb.2))
 | _ h=>exact noneE h
noncomputable def mulV:V→V→Option V:=on2 (fun a b=>if a.natAbs<2^60 then some (.int (a*b)) else none) no2 no2
 (fun l n=>if 0≤n∧n≤1000∧l.length≤1000 then some (.str (List.replicate n.toNat l).flatten) else none)
 (fun l n=>if 0≤n∧n≤100000∧l.length≤100 then some (.lst (List.replicate n.toNat l).flatten) else none) no2
theorem zIF {a:Int}(h:a.natAbs<2^60):Builtin.Int.intBits a≤64:=intBits_le_64 (by omega) (by omega)
theorem zCG (l:List Nat):∀ n (acc:Array Nat),(List.replicate n l.toArray).foldl (·++·) acc=acc++(List.replicate n l).flatten.toArray
 | 0,acc=>by simp
 | n+1,acc=>by
  simp only[List.replicate_succ,List.foldl_cons,List.flatten_cons];rw[zCG l n];simp
theorem zMj (l:List Nat){n:Int}(h0:0≤n):Txt.mul (ms l) n=ms (List.replicate n.toNat l).flatten:=by
 unfold Txt.mul;by_cases h1:n<1
 ·have:n=0:=by exact zn83 h0 h1
  subst this;simp[Str.empty]
 ·rw[if_neg h1];by_cases h2:(n==1||(ms l).length==0)=true
  ·rw[if_pos h2];simp only[Bool.or_eq_true,beq_iff_eq] at h2;rcases h2 with h2 | h2
   ·subst h2;simp
   ·have:l=[]:=by simpa [Str.length] using h2
    subst this;simp
  ·rw[if_neg h2];show (⟨_⟩:Str)=_;rw[zCG];simp
set_option tactic.hygienic true in
theorem Op2.mul:Op2 g j (binaryOp .Mult) mulV:=by
 intro A ids W s a b x y r hA hW ra rb h;replace h:=zAF h;cases h with
 | ii h=>
  refine ze02 (zAl h) fun hs h=>?_;cases h;obtain⟨t,rfl⟩:=ra.int;obtain⟨u,rfl⟩:=rb.int;exact mul_int ⟨Ext.toks ..,.int _ _⟩ (IntMulOk.of_left (zIF hs))
 | si h=>
  rename_i l n;refine ze02 (zAl h) fun hs h=>?_;cases h;obtain⟨t,rfl,c1,z1⟩:=ra.str;obtain⟨u,rfl⟩:=rb.int;have hb:(List.replicate n.toNat l).flatten.length≤1000*1000:=by
   rw[zAY];exact Nat.mul_le_mul (zn33 hs) (zn34 hs)
  have hb':l.length*n.toNat≤1000*1000:=Nat.mul_le_mul (zn34 hs) (zn33 hs);refine up (SB.mul ⟨?_,?_,?_⟩ fun t' k hk=>⟨Ext.toks ..,?_⟩)
  ·simp;exact zn84 hs
  ·intro h1 _;have e:(ms l).length=l.length:=by simp[Str.length]
   rw[e];have:(2^63-1:Int)/n≥1000:=by
    rw[ge_iff_le,Int.le_ediv_iff_mul_le (by (clear hs z1 hb hb' e;exact Int.not_lt.mp h1))];lia
   exact zn86 this hs
  ·intro _ _;unfold Builtin.Str.tooLong;have e:(ms l).length=l.length:=by simp[Str.length]
   rw[e];exact zzdef (by have:sizeLine=16777216:=rfl;exact zn87 hb' this)
  ·rw[zMj l hs.1];refine .str _ _ (fun c hc=>?_) (zznlt hb (by decide));refine ze12 (List.mem_flatten.mp hc) fun l' hl' hc'=>?_;rw[(List.mem_replicate.mp hl').2] at hc';exact c1 c hc'
 | li h=>
  rename_i l n;refine ze02 (zAl h) fun hs h=>?_;cases h;refine ze25 (ra.lst hW.P) fun l' vs z0 hl _ r1 _=>?_;subst z0;refine ze11 rb.int fun u z1=>?_;subst z1;obtain⟨⟨cls,d,data,sl⟩,ho,hcl,k,hd⟩:=id hl;simp only at hcl hd;subst hcl hd;have hlen:=r1.length
  have hsz':vs.toArray.size*n.toNat≤2^24:=by
   have:vs.length*n.toNat≤100*100000:=Nat.mul_le_mul (zn88 hs hlen) (zn35 hs);simp;exact zznlt this (zznal _ _)
  refine wpAny_binaryOp_repeat_ref (T:="list") (U:="int") (by decide) ⟨_,ho,rfl⟩ (fun s'=>typeIs_int s' n u) noFill_list_mul F.fills_int_mul F.slot_int_rmul repeat_list F.slot_int_index.lookup
   (call_meets F.slot_int_rmul (typeIs_int s n u) F.entry_int_rmul (F.args_int_rmul_2 _ _) (lm_int_rmul_list_any n u l' vs.toArray k d sl)
    ⟨ho,rfl,⟨_,ho,rfl⟩,call_meets F.slot_list_mul ⟨_,ho,rfl⟩ F.entry_list_mul (F.args_list_mul_2 _ _)
     (lm_list_mul_any l' vs.toArray k d sl n u (by simp[Builtin.List.listFitsIndex];exact zn90 hs) (by lia) (by simp[Builtin.List.listTooLong,sizeLine];simp at hsz';exact hsz'))
     ⟨ho,?_⟩⟩)
  rw[listMul_foldl_if];refine⟨Ext.push _,R.fresh_lst hW (r1.rep _) ?_⟩;rw[zAY];have:n.toNat*l.length≤100000*100:=Nat.mul_le_mul (zn35 hs) (zn92 hs);have:sizeLine=16777216:=rfl;exact zn93 (by assumption) this
 | _ h=>exact noneE h
end
noncomputable def notStar:Expr→Bool
 | .Starred _ _=>false
 | _=>true
theorem zAa {e:Expr}{rest:List Expr}{env:Env}(h:notStar e=true):starEach (e::rest) env=(false,eval e env)::starEach rest env:=by
 cases e<;>first | rfl | cases h
theorem zCs {g:GC}{A:Around}{E:Value→Shared→Prop}{s:Shared}{value slice:Expr}{o i:Value}{T id:String}{l:List Value}{Q:Value→Shared→Prop}(hT:s.TypeIs o T)
  (hl:typeLookup (.type T) "__getitem__"=pure (some (.builtin id))) (hs:subscripted slice false o i=operate l (getItem o i)) (h:wpAny (model g.prog g.w) A (getItem o i) Q E s):
  wpAny (model g.prog g.w) A (subscriptTail value slice o i) Q E s:=by
 unfold subscriptTail;refine zzwqb ?_;rw[getitemInPython_of_ne hT.not_modules];refine zzwqb (wpAny_specialOf hT hl ?_);have fin:wpAny (model g.prog g.w) A (subscripted slice false o i) (fun r s₃=>wpAny (model g.prog g.w) A (letTemporaryGo value o r >>= fun _x=>pure r) Q E s₃) E s:=by
  rw[hs];exact wpAny_operating (zzwqm h (fun r s₃ h₃=>zzwqb (wpAny_letTemporaryGo (zzwqp h₃))) fun _x _x x=>x)
 first
  | exact zzwqp (zzwqb fin)
  | exact zzwqb (zzwqp (zzwqb fin))
  | exact zzwqb fin
section
variable {g:GC} {j:Nat} {fs:FS}
noncomputable def idx {α:Type}(l:List α)(k:Int):Option α:=(seqIndex? k l.length).bind fun i=>l[i]?
noncomputable def idxV:V→V→Option V:=on2 no2 no2 no2 (fun l k=>(idx l k).map fun c=>.str [c]) idx idx
theorem zAQ {k:Int}{n i:Nat}(h:seqIndex? k n=some i):i<n∧-(n:Int)≤k∧k<n∧(i:Int)=if k<0 then k+n else k:=by
 unfold seqIndex? at h;by_cases h0:k<0
 ·simp only[h0,if_true] at h ⊢;by_cases h1:(decide (0≤k+(n:Int))&&decide (k+(n:Int)<n))=true
  ·rw[if_pos h1] at h;refine ze02 (Bool.and_eq_true_iff.mp h1) fun h1 h2=>?_;have h1:=zzode h1;have h2:=zzode h2;have e:(i:Int)=k+n:=by rw[←Option.some.inj h];exact Int.toNat_of_nonneg h1
   exact⟨Int.ofNat_lt.mp (e▸h2),by clear h h0 h2 e;exact zn94 h1,Int.lt_of_lt_of_le h0 (Int.natCast_nonneg n),e⟩
  ·rw[if_neg h1] at h;exact noneE h
 ·simp only[h0,if_false] at h ⊢;by_cases h1:(decide (0≤k)&&decide (k<(n:Int)))=true
  ·rw[if_pos h1] at h;refine ze02 (Bool.and_eq_true_iff.mp h1) fun h1 h2=>?_;have h1:=zzode h1;have h2:=zzode h2;have e:(i:Int)=k:=by rw[←Option.some.inj h];exact Int.toNat_of_nonneg h1
   exact⟨Int.ofNat_lt.mp (e▸h2),Int.le_trans (Int.neg_nonpos_of_nonneg (Int.natCast_nonneg n)) h1,h2,e⟩
  ·rw[if_neg h1] at h;exact noneE h
theorem sizeLine_eq:sizeLine=16777216:=rfl
set_option tactic.hygienic true in
theorem zOm {A:Around}{ids W}{s:Shared}{a b:Value}{x y r:V}{value slice:Expr}{Q:Value→Shared→Prop}(hW:Wok g W s)(ra:RC g ids s.heap W a x)(rb:RC g ids s.heap W b y)(h:idxV x y=some r)
  (hs:subscripted slice false a b=operate [a,b] (getItem a b))
  (hq:∀ v k,s.toks≤k→R ids s.heap W v r→Q v {s with toks:=k}):wpAny (model g.prog g.w) A (subscriptTail value slice a b) Q Fl s:=by
 replace h:=zAF h;cases h with
 | si h=>
  rename_i l k;refine ze12 (Option.map_eq_some_iff.mp h) fun c hc z2=>?_;subst z2;refine zbd hc fun i hi hc=>?_;refine ze13 ra.str fun t z3 c1 hz=>?_;subst z3;refine ze11 rb.int fun u z4=>?_;subst z4;have hb:=zAQ hi;have hl:(l.length:Int)≤16777216:=by have:=hz;rw[sizeLine_eq] at this;exact zn2 this
  refine zCs (typeIs_str s (ms l) t) slot_str_getitem.lookup hs (getItem_str (c:=c) ?_ ?_ (hq _ _ (Nat.le_succ _) ?_))
  ·simp;exact zn95 hl hb
  ·simp only[Str.length,List.size_toArray,hi,Option.bind_some,List.getElem?_toArray,hc]
  ·exact .str [c] _ (fun d hd=>by simp at hd;subst hd;exact c1 _ (List.mem_of_getElem? hc)) (by rw[sizeLine_eq];simp)
 | li h=>
  rename_i l k;refine zbd h fun i hi hc=>?_;refine ze25 (ra.lst hW.P) fun a' vs z5 hl hne r1 hz=>?_;subst z5;refine ze11 rb.int fun u z6=>?_;subst z6;have hb:=zAQ hi;have hlz:(l.length:Int)≤16777216:=by have:=hz;rw[sizeLine_eq] at this;exact zn2 this
  refine ze12 (r1.get hc) fun v hv rv=>?_;refine zCs hl.typeIs slot_list_getitem.lookup hs ?_;by_cases hk:k<0
  ·have e:(i:Int)=k+l.length:=by simpa [hk] using hb.2.2.2
   refine wpAny_getItem_list_neg hl hk (by simp[r1.length];(clear hk;exact zn13 e)) (by (clear hk;lia)) (x:=v) ?_ (hq v s.toks (zznlr _) rv);have:(k+(vs.toArray.size:Int)).toNat=i:=by simp[r1.length];exact zn14 e
   rw[this];simpa using hv
  ·have e:(i:Int)=k:=by simpa [hk] using hb.2.2.2
   refine wpAny_getItem_list hl (zn15 e) (by (clear e;lia)) (x:=v) ?_ (hq v s.toks (zznlr _) rv);have:k.toNat=i:=by exact zn16 e
   rw[this];simpa using hv
 | ti h=>
  rename_i l k;refine zbd h fun i hi hc=>?_;refine ze25 ra.tup fun a' vs z0 hl hne r1 hz=>?_;subst z0;refine ze11 rb.int fun u z1=>?_;subst z1;have hb:=zAQ hi;have hlz:(l.length:Int)≤16777216:=by have:=hz;rw[sizeLine_eq] at this;exact zn2 this
  refine ze12 (r1.get hc) fun v hv rv=>?_;refine zCs hl.typeIs slot_tuple_getitem.lookup hs (getItem_tuple hl (by lia) (by lia) (j:=i) ?_ (by simpa using hv) (hq v s.toks (zznlr _) rv));simpa [r1.length] using hi
 | _ h=>exact noneE h
theorem SimE.sub {v i:Expr}{pos f h}(hv:SimC g j fs v f)(hi:SimC g j fs i h)(hs:∀ o i',subscripted i false o i'=operate [o,i'] (getItem o i')):
  SimE g j fs (.Subscript v i pos) (b2 f h idxV):=by
 intro A ids Wo env gh η kp s r hA hE hR hx;refine zbd hx fun x hf hx=>?_;refine zbd hx fun y hh hx=>?_;refine Subscript_ (zzwqm (hv A ids Wo env gh η kp s x hA hE hR hf) (fun a s₁ q=>?_) fun _x _x h=>h);refine ze02 q fun e1 r1=>?_;clear q;refine zzwqm (hi A ids Wo env gh η kp s₁ y hA hE (hR.ext e1) hh) (fun b s₂ q=>?_) fun _x _x h=>h;refine ze02 q fun e2 r2=>?_;clear q;exact zOm (hR.wok.ext (e1.trans e2)) (r1.ext e2 Wt_P) r2 hx (hs _ _) fun v k hk rv=>⟨(e1.trans e2).trans (Ext.toks ..),rv⟩
noncomputable def cl (n:Nat):Option Int→Nat→Nat
 | none,d=>d
 | some i,_=>if i<0 then n-(-i).toNat else min i.toNat n
noncomputable def slc {α:Type}(l:List α)(lo hi:Option Int):List α:=(l.drop (cl l.length lo 0)).take (cl l.length hi l.length-cl l.length lo 0)
theorem zGM {α:Type}(l:List α)(lo hi):(slc l lo hi).length≤l.length:=by
 unfold slc;rw[List.length_take,List.length_drop];exact zznlt (Nat.min_le_right _ _) (Nat.sub_le _ _)
theorem zMA {α:Type}{l:List α}{lo hi}{x}(h:x∈slc l lo hi):x∈l:=List.mem_of_mem_drop (List.mem_of_mem_take h)
theorem zM5 (vs:List Value)(lo hi:Option Int):kms_pick vs lo hi=slc vs lo hi:=by
 unfold kms_pick slc;have e1:kms_lo lo vs.length=cl vs.length lo 0:=by cases lo<;>rfl
 have e2:kms_hi hi vs.length=cl vs.length hi vs.length:=by cases hi<;>rfl
 rw[e1,e2]
theorem RL.slc {ids h W}{vs:List Value}{xs:List V}(r:RL ids h W vs xs)(lo hi:Option Int):RL ids h W (slc vs lo hi) (slc xs lo hi):=by
 unfold Mine.Internal.slc;rw[r.length];exact(r.drop _).take _
noncomputable def partV:V→Option (Option Int)
 | .none=>some none
 | .int i=>some (some i)
 | _=>none
noncomputable def zCw (x lo hi:V):Option V:=(partV lo).bind fun a=>(partV hi).bind fun b=>match x with
 | .str l=>some (.str (slc l a b))
 | .lst l=>some (.lst (slc l a b))
 | _=>none
theorem part_of {ids h W v x o}(r:RC g ids h W v x)(hp:partV x=some o):∃ t:Option (Int×Tok),v=partValue t∧t.map (·.1)=o∧IsPart v o:=by
 cases x with
 | none=>cases hp;cases r.none;exact⟨none,rfl,rfl,.none⟩
 | int i=>cases hp;obtain⟨t,rfl⟩:=r.int;exact⟨some (_,t),rfl,rfl,.int _ _⟩
 | _=>exact noneE hp
theorem zJr {α:Type}(l:List α)(a b:Nat)(hb:b≤l.length):((sliceRange (a:Int) (b:Int) 1).filterMap (l.toArray[·]?))=(l.drop a).take (b-a):=by
 have h:=pick_run l.toArray a (b-a)
 have e:sliceRange (a:Int) (b:Int) 1=(List.range (b-a)).map (a + ·):=by
  unfold sliceRange;simp only[show (1:Int)>0 by decide,if_true];by_cases hab:(a:Int)<b
  ·rw[if_pos hab];have:(((b:Int)-a+1-1)/1).toNat=b-a:=by simp
   rw[this];apply List.map_congr_left;intro k _;exact zn96
  ·rw[if_neg hab];have:b-a=0:=by exact zn97 hab
   rw[this];rfl
 rw[e,h]
theorem cl_le (n:Nat)(o:Option Int)(d:Nat)(hd:d≤n):cl n o d≤n:=by
 unfold cl;split
 ·exact hd
 ·split<;>lia
theorem zKo (i:Int)(n:Nat):max 0 (min (if i<0 then i+n else i) (n:Int))=((if i<0 then n-(-i).toNat else min i.toNat n:Nat):Int):=by
 by_cases h:i<0
 ·rw[if_pos h,if_pos h];exact zn98
 ·rw[if_neg h,if_neg h];exact zn99
theorem zD1 (n:Nat)(lo hi:Option Int):Builtin.Str.strSliceIndices lo hi 1 n=sliceRange ((cl n lo 0:Nat):Int) ((cl n hi n:Nat):Int) 1:=by
 unfold Builtin.Str.strSliceIndices;simp only[show (1:Int)>0 by decide,if_true];congr 1
 ·cases lo with
  | none=>rfl
  | some i=>exact zKo i n
 ·cases hi with
  | none=>rfl
  | some i=>exact zKo i n
theorem str_slice (l:List Nat)(lo hi:Option Int):(Builtin.Str.strSliceIndices lo hi 1 l.length).filterMap (l.toArray[·]?)=slc l lo hi:=by
 rw[zD1,zJr _ _ _ (cl_le _ _ _ (Nat.le_refl _))];rfl
theorem zEy (a b:Nat):(sliceRange (a:Int) (b:Int) 1).length=b-a:=by
 unfold sliceRange;simp only[show (1:Int)>0 by decide,if_true,List.length_map,List.length_range];by_cases hab:(a:Int)<b
 ·rw[if_pos hab];simp
 ·rw[if_neg hab];simp;exact zn100 hab
theorem zFc (l:List Nat)(lo hi:Option Int):(Builtin.Str.strSliceIndices lo hi 1 l.length).length=(slc l lo hi).length:=by
 rw[zD1,zEy];have:=cl_le l.length hi l.length (zznlr _);unfold slc;rw[List.length_take,List.length_drop,Nat.min_eq_left (Nat.sub_le_sub_right this _)]
noncomputable def SimO (g:GC)(j:Nat)(fs:FS)(e:Option Expr)(f:List Slot→Option V):Prop:=
 ∀ (A:Around) (ids:List Addr) (Wo:Addr→Prop) (env:Env) (gh:Gh) (η:List Slot) (kp:Addr→Option Obj) (s:Shared) (x:V),
  AOk j A→EnvOk fs env→Rel g ids Wo env fs.vm gh η kp s→f η=some x→
  wpAny (model g.prog g.w) A (evalPart e env) (PE g ids (Wt g Wo env gh η) s x) Fl s
theorem SimO.none:SimO g j fs none (fun _x=>some .none):=by
 intro A ids Wo env gh η kp s r hA hE hR hx;cases hx;exact wpAny_evalPart_none ⟨Ext.refl _,.none⟩
theorem SimO.some {e f}(h:SimE g j fs e f):SimO g j fs (some e) f:=by
 intro A ids Wo env gh η kp s r hA hE hR hx;exact wpAny_evalPart_some (h A ids Wo env gh η kp s r hA hE hR hx)
noncomputable def s3 (f h k:List Slot→Option V):List Slot→Option V:=fun η=>(f η).bind fun x=>(h η).bind fun y=>(k η).bind fun z=>zCw x y z
set_option tactic.hygienic true in
theorem zPN {v:Expr}{lo hi:Option Expr}{p pos f h k}(hv:SimC g j fs v f)(hl:SimO g j fs lo h)(hh:SimO g j fs hi k):SimE g j fs (.Subscript v (.Slice lo hi none p) pos) (s3 f h k):=by
 intro A ids Wo env gh η kp s r hA hE hR hx;refine zbd hx fun x hf hx=>?_;refine zbd hx fun y hy hx=>?_;refine zbd hx fun z hz hx=>?_;refine zbd hx fun a ha hx=>?_;refine zbd hx fun b hb hx=>?_;refine Subscript_ (zzwqm (hv A ids Wo env gh η kp s x hA hE hR hf) (fun o s₁ q=>?_) fun _x _x h=>h);refine ze02 q fun e1 r1=>?_;clear q;refine wpAny_Slice (zzwqm (hl A ids Wo env gh η kp s₁ y hA hE (hR.ext e1) hy) (fun vl s₂ q=>?_) fun _x _x h=>h);refine ze02 q fun e2 r2=>?_;clear q;refine zzwqm (hh A ids Wo env gh η kp s₂ z hA hE (hR.ext (e1.trans e2)) hz) (fun vu s₃ q=>?_) fun _x _x h=>h;refine ze02 q fun e3 r3=>?_;clear q;refine wpAny_evalPart_none ?_;refine ze13 (part_of (g:=g) (.ofR r2) ha) fun tl z2 el pl=>?_;subst z2;refine ze13 (part_of (g:=g) (.ofR r3) hb) fun tu z3 eu pu=>?_;subst z3;have e123:=(e1.trans e2).trans e3;have ep:Ext g s₃ {s₃ with heap:=s₃.heap.push {cls:=.type "slice",data:=.fields #[partValue tl,partValue tu,.none]}}:=Ext.push _;have rx:=r1.ext ((e2.trans e3).trans ep) Wt_P;have hW:=(hR.wok.ext (e123.trans ep))
 generalize hs4:({s₃ with heap:=s₃.heap.push {cls:=.type "slice",data:=.fields #[partValue tl,partValue tu,.none]}}:Shared)=s₄ at ep rx hW;have hsl:s₄.heap.IsSliceOf s₃.heap.objs.size (partValue tl) (partValue tu) .none:=hs4▸Heap.IsSliceOf.new ..;cases x with
 | str l=>
  cases hx;refine ze13 rx.str fun t z4 c1 hzz=>?_;subst z4;refine zCs (typeIs_str s₄ (ms l) t) slot_str_getitem.lookup rfl ?_;refine wpAny_getItem_str_slice (l:=tl) (u:=tu) (st:=none) ?_ rfl ?_
  ·obtain⟨oo,h1,h2,h3⟩:=hsl;exact⟨oo,h1,h2,h3⟩
  ·have hpick:(slicePicked (ms l) tl tu none).filterMap ((ms l).cps[·]?)=slc l a b:=by
    unfold slicePicked;rw[el,eu];have:=str_slice l a b;simpa [Str.length] using this
   have hres:∀ t',R ids s₄.heap (Wt g Wo env gh η) (.str (ms (slc l a b)) t') (.str (slc l a b)):=fun t'=>
    .str _ _ (fun c hc=>c1 c (zMA hc)) (zznlt (zGM ..) hzz)
   unfold sliceMade;rw[hpick];split
   ·rename_i hfull;simp only[Bool.and_eq_true,beq_iff_eq] at hfull;have hlen:(slc l a b).length=l.length:=by
     rw[←zFc,←el,←eu];simpa [slicePicked,Str.length] using hfull.2
    have:slc l a b=l:=by
     have hsub:List.Sublist (slc l a b) l:=(List.take_sublist ..).trans (List.drop_sublist ..);exact hsub.eq_of_length hlen
    have hr:=hres t;rw[this] at hr ⊢;exact⟨e123.trans ep,hr⟩
   ·exact⟨zznlt (by simpa [Str.length] using zGM l a b) hzz,(e123.trans ep).trans (Ext.toks ..),hres _⟩
 | lst l=>
  cases hx;refine ze25 (rx.lst Wt_P) fun a' vs z5 hl' _ r1' hzz=>?_;subst z5;refine zCs hl'.typeIs slot_list_getitem.lookup rfl ?_;refine wpAny_getItem_list_slice hl' hsl pl pu .none (by decide) ?_ (by have:=r1'.length;simp;exact zznlt (Nat.le_of_eq this) hzz);rw[kms_pick_eq,zM5];exact⟨(e123.trans ep).trans (Ext.push _),R.fresh_lst hW (r1'.slc a b) (zznlt (zGM ..) hzz)⟩
 | _=>exact noneE hx
end
section
variable {g:GC} {j:Nat} {fs:FS}
noncomputable def SimA (g:GC)(j:Nat)(fs:FS)(pos:Pos)(es:List Expr)(f:List Slot→Option (List V)):Prop:=
 ∀ (A:Around) (ids:List Addr) (Wo:Addr→Prop) (env:Env) (gh:Gh) (η:List Slot) (kp:Addr→Option Obj) (s:Shared) (xs:List V),
  AOk j A→EnvOk fs env→Rel g ids Wo env fs.vm gh η kp s→f η=some xs→
  wpAny (model g.prog g.w) A (spliced (backTo pos (starEach es env))) (fun vs s'=>Ext g s s'∧RL ids s'.heap (Wt g Wo env gh η) vs xs) (fun _ _=>False) s
noncomputable def aCons (f:List Slot→Option V)(h:List Slot→Option (List V)):List Slot→Option (List V):=fun η=>(f η).bind fun x=>(h η).bind fun xs=>some (x::xs)
theorem SimA.nil {pos}:SimA g j fs pos [] (fun _x=>some []):=by
 intro A ids Wo env gh η kp s xs hA hE hR hx;cases hx;exact Calls.spliced_nil ⟨Ext.refl _,.nil⟩
theorem SimA.cons {pos e es f h}(he:SimE g j fs e f)(hr:SimA g j fs pos es h)(hn:notStar e=true):SimA g j fs pos (e::es) (aCons f h):=by
 intro A ids Wo env gh η kp s xs hA hE hR hx;refine zbd hx fun x hf hx=>?_;refine zbd hx fun ys hy hx=>?_;cases hx;rw[zAa hn];refine Calls.spliced_cons (zzwqm (he A ids Wo env gh η kp s x hA hE hR hf) (fun v s₁ q=>?_) fun _x _x h=>h);refine ze02 q fun e1 r1=>?_;clear q;exact zzwqm (hr A ids Wo env gh η kp s₁ ys hA hE (hR.ext e1) hy) (fun vs s₂ q=>⟨e1.trans q.1,.cons (r1.keeps (q.1.hext Wt_P)) q.2⟩) fun _x _x h=>h
theorem SimE.tup {es k pos f}(h:SimA g j fs pos es f):SimE g j fs (.Tuple es k pos) (fun η=>(f η).bind fun xs=>if xs.length≤1000 then some (.tup xs) else none):=by
 intro A ids Wo env gh η kp s v hA hE hR hx;refine zbd hx fun xs hf hx=>?_
 ·refine ze02 (zAl hx) fun hz hx=>?_;cases hx;refine Tuple_ (zzwqm (h A ids Wo env gh η kp s xs hA hE hR hf) (fun vs s₁ q=>?_) fun _x _x h=>h);refine ze02 q fun e1 r1=>?_;clear q;have hz':xs.length≤sizeLine:=by rw[sizeLine_eq];exact zznlt hz (zznal _ _)
  exact wpAny_newTuple ⟨e1.trans (Ext.push _),R.fresh_tup (hR.wok.ext e1) r1 hz'⟩ (by rw[r1.length];exact hz')
theorem SimE.lst {es pos f}(h:SimA g j fs pos es f):SimE g j fs (.List es pos) (fun η=>(f η).bind fun xs=>if xs.length≤1000 then some (.lst xs) else none):=by
 intro A ids Wo env gh η kp s v hA hE hR hx;refine zbd hx fun xs hf hx=>?_
 ·refine ze02 (zAl hx) fun hz hx=>?_;cases hx;refine List_ (zzwqm (h A ids Wo env gh η kp s xs hA hE hR hf) (fun vs s₁ q=>?_) fun _x _x h=>h);refine ze02 q fun e1 r1=>?_;clear q;have hz':xs.length≤sizeLine:=by rw[sizeLine_eq];exact zznlt hz (zznal _ _)
  exact wpAny_newList ⟨e1.trans (Ext.push _),R.fresh_lst (hR.wok.ext e1) r1 hz'⟩ (by rw[r1.length];exact hz')
theorem zCh {A:Around}{E:Value→Shared→Prop}{ids Wo env gh η kp}{s:Shared}{x:Str}{v:Value}{Q:Value→Shared→Prop}(hG:GOk g)(hE:EnvOk fs env)(hR:Rel g ids Wo env fs.vm gh η kp s)
  (hk:zAj fs.scope x=some .globalImplicit) (hv:g.mg x=some v) (h:Q v s):wpAny (model g.prog g.w) A (loadName env x) Q E s:=by
 have hl:env.kindOf x=some .globalImplicit:=by unfold Env.kindOf;rw[hE.scope];exact hk
 unfold loadName;simp only[Env.blockKind,hE.kind,hl,ScopeKind.isAnnotationScope,Bool.false_and,Bool.false_eq_true,if_false];unfold loadGlobal;rw[hE.globals];refine zzwqb (wpAny_nsGet (hG.glob.keeps hR.keep0) ?_);rw[hv];exact zzwqp h
theorem zAH {A:Around}{E:Value→Shared→Prop}{ids Wo env gh η kp}{s:Shared}{x:Str}{v:Value}{Q:Value→Shared→Prop}(hG:GOk g)(hE:EnvOk fs env)(hR:Rel g ids Wo env fs.vm gh η kp s)
  (hk:zAj fs.scope x=some .globalImplicit) (hn:g.mg x=none) (hv:g.mb x=some v) (h:Q v s):wpAny (model g.prog g.w) A (loadName env x) Q E s:=by
 have hl:env.kindOf x=some .globalImplicit:=by unfold Env.kindOf;rw[hE.scope];exact hk
 unfold loadName;simp only[Env.blockKind,hE.kind,hl,ScopeKind.isAnnotationScope,Bool.false_and,Bool.false_eq_true,if_false];unfold loadGlobal;rw[hE.globals,hE.builtins];refine zzwqb (wpAny_nsGet (hG.glob.keeps hR.keep0) ?_);rw[hn];refine zzwqb (wpAny_nsGet (hG.built.keeps hR.keep0) ?_);rw[hv];exact zzwqp h
structure Bs (g:GC):Prop where
 ok:GOk g
 len:g.mg "len"=none∧g.mb "len"=some (.builtin "len")
 chr:g.mg "chr"=none∧g.mb "chr"=some (.builtin "chr")
 ord:g.mg "ord"=none∧g.mb "ord"=some (.builtin "ord")
 max:g.mg "max"=none∧g.mb "max"=some (.builtin "max")
 isinstance:g.mg "isinstance"=none∧g.mb "isinstance"=some (.builtin "isinstance")
 range:g.mg "range"=none∧g.mb "range"=some (.type "range")
 list:g.mg "list"=none∧g.mb "list"=some (.type "list")
 object:g.mg "object"=none∧g.mb "object"=some (.type "object")
 str:g.mg "str"=none∧g.mb "str"=some (.type "str")
 tuple:g.mg "tuple"=none∧g.mb "tuple"=some (.type "tuple")
theorem zDu {M:Model}{f:Value}(hf:∀ a,f≠.ref a)(h:Heap):Looks M h (keeperOf f) .machine:=by
 cases f with
 | ref a=>exact absurd rfl (hf a)
 | _=>exact Looks.of_pure rfl
theorem zAA {A:Around}{E:Value→Shared→Prop}{s:Shared}{env:Env}{pos:Pos}{f:Value}{first:List Value}{e:Expr}{rest:List Expr}{Q:Value→Shared→Prop}(hf:∀ a,f≠.ref a)
  (hn:notStar e=true) (hns:(backTo pos (starEach rest env)).any (·.1)=false)
  (h:wpAny (model g.prog g.w) A (spliced (backTo pos (starEach (e::rest) env))) (fun vs s₁=>wpAny (model g.prog g.w) A (call f (first++vs)) Q E s₁) E s):
  wpAny (model g.prog g.w) A (callWith pos f first (backTo pos (starEach (e::rest) env)) []) Q E s:=by
 rw[zAa hn] at h ⊢;refine callWith_of (P:=fun _x=>True) (by show ((false||(backTo pos (starEach rest env)).any (·.1))||false)=false;rw[hns];rfl) (fun h _x=>⟨_,.inr (.inl rfl),zDu hf h⟩) (evalArgs_plain ?_);exact zzwqm h (fun vs s₁ h₁=>⟨trivial,h₁⟩) fun _x _x x=>x
theorem zAD {pos:Pos}{env:Env}:(backTo pos (starEach [] env)).any (·.1)=false:=rfl
theorem zAW {pos:Pos}{env:Env}{e:Expr}{rest:List Expr}(hn:notStar e=true)(h:(backTo pos (starEach rest env)).any (·.1)=false):(backTo pos (starEach (e::rest) env)).any (·.1)=false:=by
 rw[zAa hn];show (false||(backTo pos (starEach rest env)).any (·.1))=false;rw[h];rfl
theorem zPR {x:Str}{np pos e f o}{fv:Value}(hG:GOk g)(hk:zAj fs.scope x=some .globalImplicit)(hv:g.mg x=none∧g.mb x=some fv)(hf:∀ a,fv≠.ref a)(he:SimC g j fs e f)
  (ho:Op1 g j (fun a=>call fv [a]) o) (hn:notStar e=true) (hd:(x==("__debug__":Str))=false):SimE g j fs (.Call (.Name x np) [e] [] pos) (fun η=>(f η).bind o):=by
 intro A ids Wo env gh η kp s v hA hE hR hx;refine zbd hx fun y hf' hx=>?_;refine wpAny_Call_ofName (wpAny_Name (zAH hG hE hR hk hv.1 hv.2 ?_) hd);refine zAA hf hn zAD ?_;rw[zAa hn];refine Calls.spliced_cons (zzwqm (he A ids Wo env gh η kp s y hA hE hR hf') (fun v' s₁ q=>?_) fun _x _x h=>h);refine ze02 q fun e1 r1=>?_;clear q;refine Calls.spliced_nil ?_;exact zzwqm (ho A ids _ s₁ v' y v hA (hR.wok.ext e1) r1 hx) (fun c s₃ q=>⟨e1.trans q.1,q.2⟩) fun _x _x h=>h
noncomputable def lenV (x:V):Option V:=match x with
 | .str l=>some (.int l.length)
 | .lst l=>some (.int l.length)
 | .tup l=>some (.int l.length)
 | _=>none
theorem Op1.len:Op1 g j (fun a=>call (.builtin "len") [a]) lenV:=by
 intro A ids W s a x r hA hW ra h;cases x with
 | str l=>
  cases h;obtain⟨t,rfl,_,hz⟩:=ra.str;have:=zBu hz;refine len_str (by simp[Str.length];lia) ?_;have e:((ms l).length:Int)=l.length:=by simp[Str.length]
  rw[e];exact⟨Ext.toks ..,.int _ _⟩
 | lst l=>
  cases h;obtain⟨a',vs,rfl,hl,_,r1,hz⟩:=ra.lst hW.P;have:=zBu hz;have e:((vs.toArray.size:Nat):Int)=l.length:=by simp[r1.length]
  refine len_list hl (by rw[e];exact this) ?_;rw[e];exact⟨Ext.toks ..,.int _ _⟩
 | tup l=>
  cases h;obtain⟨a',vs,rfl,hl,_,r1,hz⟩:=ra.tup;have:=zBu hz;have e:((vs.toArray.size:Nat):Int)=l.length:=by simp[r1.length]
  refine len_tuple hl (by rw[e];exact this) ?_;rw[e];exact⟨Ext.toks ..,.int _ _⟩
 | _=>exact noneE h
noncomputable def chrV (x:V):Option V:=match x with
 | .int i=>if 0≤i∧i≤1114111 then some (.str [i.toNat]) else none
 | _=>none
theorem Op1.chr:Op1 g j (fun a=>call (.builtin "chr") [a]) chrV:=by
 intro A ids W s a x r hA hW ra h;cases x with
 | int i=>
   refine ze02 (zAl h) fun hi h=>?_;cases h;obtain⟨t,rfl⟩:=ra.int;exact chr_of_range hi.1 hi.2 ⟨Ext.toks ..,.str [i.toNat] _ (fun c hc=>by simp at hc;exact zn102 hi hc) (by rw[sizeLine_eq];simp)⟩
 | _=>exact noneE h
noncomputable def one:List Nat→Option Nat
 | [c]=>some c
 | _=>none
theorem zGT {l:List Nat}{c:Nat}(h:one l=some c):l=[c]:=by
 cases l with
 | nil=>exact noneE h
 | cons a l=>cases l with
  | nil=>cases h;rfl
  | cons _ _=>exact noneE h
noncomputable def zLP (x:V):Option V:=match x with
 | .str _=>some (.bool true)
 | .none=>some (.bool false)
 | .tup _=>some (.bool false)
 | _=>none
theorem zK6:Op1 g j (fun a=>call (.builtin "isinstance") [a,.type "str"]) zLP:=by
 intro A ids W s a x r hA hW ra h;cases x with
 | str l=>cases h;obtain⟨t,rfl,_,_⟩:=ra.str;exact PySem.IsiPair.str_str ⟨Ext.refl _,.bool _⟩
 | none=>cases h;cases ra.none;exact PySem.IsiPair.NoneType_str ⟨Ext.toks ..,.bool _⟩
 | tup l=>
  cases h;obtain⟨a',vs,rfl,hl,_,r1,hz⟩:=ra.tup;refine ze13 hl fun o ho hc _=>?_;clear hl;exact PySem.call_isinstance (PySem.isinstance_false_tuple (by decide +kernel) PySem.F.isi_meta_str PySem.F.sub_tuple_str) ⟨⟨o,ho,hc⟩,Ext.toks ..,.bool _⟩
 | _=>exact noneE h
theorem zPy {e np tp pos f o}{T:Str}{Tv:String}(hG:GOk g)(hb:g.mg "isinstance"=none∧g.mb "isinstance"=some (.builtin "isinstance"))(hk:zAj fs.scope "isinstance"=some .globalImplicit)
  (hT:g.mg T=none∧g.mb T=some (.type Tv)) (hkT:zAj fs.scope T=some .globalImplicit) (he:SimC g j fs e f) (ho:Op1 g j (fun a=>call (.builtin "isinstance") [a,.type Tv]) o)
  (hn:notStar e=true) (hd:(T==("__debug__":Str))=false):SimE g j fs (.Call (.Name "isinstance" np) [e,.Name T tp] [] pos) (fun η=>(f η).bind o):=by
 intro A ids Wo env gh η kp s v hA hE hR hx;refine zbd hx fun y hf' hx=>?_;refine wpAny_Call_ofName (wpAny_Name (zAH hG hE hR hk hb.1 hb.2 ?_) (by decide));refine zAA (by intro a h;cases h) hn (zAW rfl zAD) ?_;rw[zAa hn,zAa rfl];refine Calls.spliced_cons (zzwqm (he A ids Wo env gh η kp s y hA hE hR hf') (fun v' s₁ q=>?_) fun _x _x h=>h);refine ze02 q fun e1 r1=>?_;clear q;refine Calls.spliced_cons (wpAny_Name (zAH hG hE (hR.ext e1) hkT hT.1 hT.2 ?_) hd);refine Calls.spliced_nil ?_;exact zzwqm (ho A ids _ s₁ v' y v hA (hR.wok.ext e1) r1 hx) (fun c s₃ q=>⟨e1.trans q.1,q.2⟩) fun _x _x h=>h
end
noncomputable def kill (i:Nat):Slot→Slot
 | .app r=>if r=i then .undef else .app r
 | sl=>sl
noncomputable def setS (η:List Slot)(i:Nat)(sl:Slot):List Slot:=match η[i]? with
 | some (.ownP _)=>(η.map (kill i)).set i sl
 | _=>η.set i sl
theorem zBc {η:List Slot}{i:Nat}{sl:Slot}(h:i<η.length):(setS η i sl)[i]? = some sl:=by
 unfold setS;split<;>simp[h]
theorem zD2 {η:List Slot}{i:Nat}{sl:Slot}:(setS η i sl).length=η.length:=by
 unfold setS;split<;>simp
set_option tactic.hygienic true in
theorem zA8 {η:List Slot}{i k:Nat}{sl sl':Slot}(hk:k≠i)(h:(setS η i sl)[k]? = some sl'):∃ s0,η[k]? = some s0∧(sl'=s0∨(sl'=.undef∧s0=.app i)):=by
 unfold setS at h;split at h
 ·rw[List.getElem?_set_ne (Ne.symm hk),List.getElem?_map] at h;refine ze12 (Option.map_eq_some_iff.mp h) fun s0 h0 z6=>?_;subst z6;refine⟨s0,h0,?_⟩;cases s0<;>simp only[kill,true_or];rename_i r;by_cases e:r=i<;>simp[e]
 ·rw[List.getElem?_set_ne (Ne.symm hk)] at h;exact⟨sl',h,.inl rfl⟩
theorem zC0 {η:List Slot}{i k:Nat}{sl:Slot}{l:List V}(hk:k≠i)(h:η[k]? = some (.ownP l)):(setS η i sl)[k]? = some (.ownP l):=by
 unfold setS;split
 ·rw[List.getElem?_set_ne (Ne.symm hk),List.getElem?_map,h];rfl
 ·rw[List.getElem?_set_ne (Ne.symm hk)];exact h
theorem zHA {η:List Slot}{i k:Nat}{sl s0:Slot}(hk:k≠i)(h:η[k]? = some s0):∃ sl',(setS η i sl)[k]? = some sl'∧(sl'=s0∨(sl'=.undef∧s0=.app i)):=by
 have hlt:k<(setS η i sl).length:=by rw[zD2];exact(List.getElem?_eq_some_iff.mp h).1
 refine ze12 (zA8 hk (zzlge hlt)) fun s1 h1 h2=>?_;rw[h] at h1;cases h1;exact⟨_,List.getElem?_eq_getElem hlt,h2⟩
inductive Out where
 | next
 | brk
 | cont
 | ret (v:V)
noncomputable def FR (ids:List Addr)(h:Heap)(W:Addr→Prop):Flow→Out→Prop
 | .next,.next=>True
 | .brk,.brk=>True
 | .cont,.cont=>True
 | .ret v,.ret x=>R ids h W v x
 | _,_=>False
inductive PS (g:GC)(ids:List Addr)(Wo:Addr→Prop)(env:Env)(vm:Str→Option Nat)(kp:Addr→Option Obj)(s:Shared)(o:Out)(η':List Slot)(fl:Flow)(s':Shared):Prop
 | mk (ids':List Addr) (gh':Gh):(∀ (n:Nat) (a:Addr),ids[n]? = some a→ids'[n]? = some a)→Rel g ids' Wo env vm gh' η' kp s'→FR ids' s'.heap (Wt g Wo env gh' η') fl o→s.heap.objs.size≤s'.heap.objs.size→PS g ids Wo env vm kp s o η' fl s'
noncomputable def SimS (g:GC)(j:Nat)(fs:FS)(ss:List Stmt)(F:List Slot→Option (Out×List Slot)):Prop:=
 ∀ (A:Around) (ids:List Addr) (Wo:Addr→Prop) (env:Env) (gh:Gh) (η:List Slot) (kp:Addr→Option Obj) (s:Shared) (o:Out) (η':List Slot),
  AOk j A→EnvOk fs env→Rel g ids Wo env fs.vm gh η kp s→F η=some (o,η')→
  wpAny (model g.prog g.w) A (execs ss env) (PS g ids Wo env fs.vm kp s o η') (fun _ _=>False) s
noncomputable def Sim1 (g:GC)(j:Nat)(fs:FS)(st:Stmt)(F:List Slot→Option (Out×List Slot)):Prop:=
 ∀ (A:Around) (ids:List Addr) (Wo:Addr→Prop) (env:Env) (gh:Gh) (η:List Slot) (kp:Addr→Option Obj) (s:Shared) (o:Out) (η':List Slot),
  AOk j A→EnvOk fs env→Rel g ids Wo env fs.vm gh η kp s→F η=some (o,η')→
  wpAny (model g.prog g.w) A (exec st env) (PS g ids Wo env fs.vm kp s o η') (fun _ _=>False) s
noncomputable def seqS (F G:List Slot→Option (Out×List Slot)):List Slot→Option (Out×List Slot):=fun η=>(F η).bind fun r=>match r.1 with
 | .next=>G r.2
 | _=>some r
section
variable {g:GC} {j:Nat} {fs:FS}
theorem PS.trans {ids Wo env vm kp}{s s₁ s₂:Shared}{o η'}{ids₁:List Addr}{fl}(hi:∀ (n:Nat) (a:Addr),ids[n]? = some a→ids₁[n]? = some a)(hz:s.heap.objs.size≤s₁.heap.objs.size)
  (h:PS g ids₁ Wo env vm kp s₁ o η' fl s₂):PS g ids Wo env vm kp s o η' fl s₂:=by
 obtain⟨ids',gh',a,b,c,d⟩:=h;exact⟨ids',gh',fun n x e=>a n x (hi n x e),b,c,Nat.le_trans hz d⟩
theorem SimS.nil:SimS g j fs [] (fun η=>some (.next,η)):=by
 intro A ids Wo env gh η kp s o η' hA hE hR hx;cases hx;exact wpAny_execs_nil ⟨ids,gh,fun _x _x e=>e,hR,trivial,Nat.le_refl _⟩
theorem SimS.cons {st ss F G}(h1:Sim1 g j fs st F)(h2:SimS g j fs ss G):SimS g j fs (st::ss) (seqS F G):=by
 intro A ids Wo env gh η kp s o η' hA hE hR hx;obtain⟨⟨o1,η1⟩,hF,hx⟩:=Option.bind_eq_some_iff.mp hx;refine wpAny_execs_cons (zzwqm (h1 A ids Wo env gh η kp s o1 η1 hA hE hR hF) (fun fl s₁ hp=>?_) fun _x _x h=>h);obtain⟨ids₁,gh₁,hi,hR₁,hf,hz⟩:=hp;cases o1 with
 | next=>
  cases fl<;>first | exact hf.elim | skip
  exact zzwqm (h2 A ids₁ Wo env gh₁ η1 kp s₁ o η' hA hE hR₁ hx) (fun fl s₂ h=>h.trans hi hz) fun _x _x h=>h
 | _=>
  cases hx;cases fl<;>first | exact hf.elim | exact⟨ids₁,gh₁,hi,hR₁,hf,hz⟩
theorem zA3.mono {ids:List Addr}{h h':Heap}{W W':Addr→Prop}{adr:Nat→Addr}{η:List Slot}{i:Nat}{sl:Slot}{ov:Option Value}(hh:HExt W h h')(hw:∀ b o,h.get? b=some o→¬W b→¬W' b)
  (ho:∀ l,sl.owned? = some l→∀ o,h.get? (adr i)=some o→h'.get? (adr i)=some o) (r:zA3 ids h W adr η i sl ov):zA3 ids h' W' adr η i sl ov:=by
 cases sl with
 | undef=>trivial
 | val v=>obtain⟨v',e,r⟩:=r;exact⟨v',e,r.mono (fun _x _x e=>e) hh hw⟩
 | own l=>obtain⟨e,vs,hz,hl,r⟩:=r;exact⟨e,vs,hz,hl.at fun o e=>ho l rfl o e,r.mono (fun _x _x e=>e) hh hw⟩
 | ownP l=>obtain⟨e,vs,hz,hl,r⟩:=r;exact⟨e,vs,hz,hl.at fun o e=>ho l rfl o e,r.mono (fun _x _x e=>e) hh hw⟩
 | app r'=>obtain⟨b,l,e1,e2,e3,e4⟩:=r;exact⟨b,l,e1,e2,hw b _ e4 e3,hh b _ e3 e4⟩
 | cnt n=>exact r
theorem Rel.ownLt {ids Wo env vm gh η kp}{s:Shared}(hR:Rel g ids Wo env vm gh η kp s){b:Addr}(h:Own env gh η b):b<s.heap.objs.size:=hR.wlt b (.inr (.inr h))
theorem Rel.more {ids}{Wo Wo':Addr→Prop}{env vm gh η kp}{s s₁:Shared}(hR:Rel g ids Wo env vm gh η kp s)(e:Ext g s s₁)(hsub:∀ b,Wo b→Wo' b)(hN:∀ b,Wo' b→Wo b∨(s.heap.objs.size≤b∧b<s₁.heap.objs.size)):
  Rel g ids Wo' env vm gh η kp s₁:=
 let q:=hR.ext e
 have hw:∀ b o,s.heap.get? b=some o→¬Wt g Wo env gh η b→¬Wt g Wo' env gh η b:=fun b o ho hn h=>by
  rcases h with h | h | h
  ·rcases hN b h with h | ⟨h,_⟩
   ·exact hn (.inl h)
   ·exact absurd (Heap.lt_size ho) (Nat.not_lt.mpr h)
  ·exact hn (.inr (.inl h))
  ·exact hn (.inr (.inr h))
 {q with
  adrWo:=fun i sl l h1 h2 h=>by
   rcases hN _ h with h | ⟨h,_⟩
   ·exact hR.adrWo i sl l h1 h2 h
   ·exact absurd (hR.ownLt (.inr (.inr ⟨i,sl,l,h1,h2,rfl⟩))) (Nat.not_lt.mpr h)
  var:=fun x i hx=>let ⟨a,sl,b,c⟩:=hR.var x i hx
   ⟨a,sl,b,c.mono (e.hext Wt_P) hw fun l hl o ho=>e.heap _ _ (hR.off _ (.inr (.inr ⟨i,sl,l,b,hl,rfl⟩))).2.2 ho⟩
  wlt:=fun b hb=>by
   rcases hb with h | h
   ·rcases hN b h with h | ⟨_,h⟩
    ·exact q.wlt b (.inl h)
    ·exact h
   ·exact q.wlt b (.inr h)
  idoff:=fun n a e h=>by
   refine ze12 (hR.idok.there n a e) fun o ho _=>?_;exact hw a o ho (hR.idoff n a e) h}
theorem Rel.less {ids}{Wo Wo':Addr→Prop}{env vm gh η kp}{s:Shared}(hR:Rel g ids Wo env vm gh η kp s)(hsub:∀ b,Wo' b→Wo b):Rel g ids Wo' env vm gh η kp s:=
 have hw:∀ b,Wt g Wo' env gh η b→Wt g Wo env gh η b:=fun b h=>h.elim (fun h=>.inl (hsub b h)) .inr
 {hR with
  adrWo:=fun i sl l h1 h2 h=>hR.adrWo i sl l h1 h2 (hsub _ h)
  var:=fun x i hx=>let ⟨a,sl,b,c⟩:=hR.var x i hx;⟨a,sl,b,c.mono (fun _x _x _x e=>e) (fun b _x _x hn h=>hn (hw b h)) fun _x _x _x h=>h⟩
  wlt:=fun b hb=>hR.wlt b (hw b hb)
  idoff:=fun n a e h=>hR.idoff n a e (hw a h)}
theorem Rel.put {ids:List Addr}{Wo1 Wo:Addr→Prop}{env vm gh η kp}{s₁ s':Shared}{x:Str}{i:Nat}{sl:Slot}{T:Addr}{m' cm':Str→Option Value}{a:Addr}(hR₁:Rel g ids Wo1 env vm gh η kp s₁)(hWo:∀ b,Wo b→Wo1 b)
  (hv:vm x=some i) (hT:T=env.locals∨∃ y,env.cells.lookup y=some T) (hs:Heap.SameBut T s₁.heap s'.heap) (hgens:s'.gens=s₁.gens) (hos:s'.os=s₁.os) (htk:s₁.toks≤s'.toks)
  (hns:s'.heap.Ns env.locals m') (hcell:∀ y c,env.cells.lookup y=some c→s'.heap.IsCell c (cm' y))
  (hval:∀ y,y≠x→valOf env ⟨m',cm',gh.adr⟩ y=valOf env gh y)
  (ha:∀ l,sl.owned? = some l→Wo1 a∧¬Wo a∧¬Own env gh η a∧a≠g.P∧kp a=none∧g.h0.get? a=none)
  (hsl:zA3 ids s'.heap (Wt g Wo env ⟨m',cm',fun k=>if k=i then a else gh.adr k⟩ (setS η i sl)) (fun k=>if k=i then a else gh.adr k) (setS η i sl) i sl (valOf env ⟨m',cm',gh.adr⟩ x)):
  Rel g ids Wo env vm ⟨m',cm',fun k=>if k=i then a else gh.adr k⟩ (setS η i sl) kp s':=by
 have abs:∀ (gh':Gh) (η':List Slot),gh'=⟨m',cm',fun k=>if k=i then a else gh.adr k⟩→setS η i sl=η'→Rel g ids Wo env vm gh' η' kp s':=by
  intro gh' η' hg' hη;have hadr:∀ k,gh'.adr k=if k=i then a else gh.adr k:=fun k=>hg'▸rfl;have hsl':zA3 ids s'.heap (Wt g Wo env gh' η') gh'.adr η' i sl (valOf env gh' x):=by rw[hg',←hη];exact hsl
  have hvo:∀ y,y≠x→valOf env gh' y=valOf env gh y:=fun y h=>by rw[hg'];exact hval y h
  have hns':s'.heap.Ns env.locals gh'.m:=by rw[hg'];exact hns
  have hcell':∀ y c,env.cells.lookup y=some c→s'.heap.IsCell c (gh'.cm y):=by rw[hg'];exact hcell
  clear hg' hsl hval hns hcell;have hTO:Own env gh η T:=by rcases hT with h | h;exact .inl h;exact .inr (.inl h)
  have hTW:Wt g Wo1 env gh η T:=.inr (.inr hTO);refine ze03 (hR₁.off T hTO) fun hTk hT0 hTP=>?_;have up:∀ b o,b≠T→s₁.heap.get? b=some o→s'.heap.get? b=some o:=fun b o hb e=>hs.extBut b o hb e;have hilt:i<η.length:=by obtain⟨_,sl0,h0,_⟩:=hR₁.var x i hv;exact(List.getElem?_eq_some_iff.mp h0).1
  have hsz:s'.heap.objs.size=s₁.heap.objs.size:=hs.1
  have own':∀ k sl' l,η'[k]? = some sl'→sl'.owned? = some l→(k=i∧sl'=sl)∨(k≠i∧η[k]? = some sl'):=by
   intro k sl' l h1 h2;by_cases hk:k=i
   ·subst hk;rw[←hη,zBc hilt] at h1;cases h1;exact .inl ⟨rfl,rfl⟩
   ·refine ze12 (zA8 hk (hη▸h1)) fun s0 h0 h3=>?_;rcases h3 with rfl | ⟨rfl,_⟩
    ·exact .inr ⟨hk,h0⟩
    ·exact noneE h2
  have Own_old:∀ b,Own env gh' η' b→Own env gh η b∨(b=a∧∃ l,sl.owned? = some l):=by
   intro b hb;rcases hb with h | h | ⟨k,sl',l,h1,h2,h3⟩
   ·exact .inl (.inl h)
   ·exact .inl (.inr (.inl h))
   ·rcases own' k sl' l h1 h2 with ⟨rfl,rfl⟩ | ⟨hk,h0⟩
    ·rw[hadr,if_pos rfl] at h3;exact .inr ⟨h3.symm,l,h2⟩
    ·rw[hadr,if_neg hk] at h3;exact .inl (.inr (.inr ⟨k,sl',l,h0,h2,h3⟩))
  have hw:∀ b o,s₁.heap.get? b=some o→¬Wt g Wo1 env gh η b→¬Wt g Wo env gh' η' b:=by
   intro b o e hn h;rcases h with h | h | h
   ·exact hn (.inl (hWo b h))
   ·exact hn (.inr (.inl h))
   ·rcases Own_old b h with h | ⟨h,l,hl⟩
    ·exact hn (.inr (.inr h))
    ·exact hn (.inl (h▸(ha l hl).1))
  have hh:HExt (Wt g Wo1 env gh η) s₁.heap s'.heap:=fun b o hb e=>up b o (fun h=>hb (h▸hTW)) e
  have hTdata:∃ o,s₁.heap.get? T=some o∧∀ vs,o.data≠.fields vs:=by
   rcases hT with h | ⟨y,h⟩
   ·obtain⟨o,es,ep,ho,hd,_⟩:=hR₁.ns;rw[h];exact⟨o,ho,fun vs q=>by rw[hd] at q;cases q⟩
   ·obtain⟨o,ho,hd⟩:=hR₁.cell y T h;exact⟨o,ho,fun vs q=>by rw[hd] at q;cases q⟩
  refine ze12 hTdata fun oT hoT hdT=>?_;clear hTdata;refine
   {keep0:=fun b o e=>up b o (fun h=>by rw[h,hT0] at e;exact noneE e) (hR₁.keep0 b o e)
    keep:=fun b o e=>up b o (fun h=>by rw[h,hTk] at e;exact noneE e) (hR₁.keep b o e)
    tab:=?_
    gens:=hgens▸hR₁.gens
    os:=hos.trans hR₁.os
    ns:=hns'
    cell:=hcell'
    capart:=hR₁.capart
    lcell:=hR₁.lcell
    adrL:=?_
    adrC:=?_
    adrA:=?_
    adrWo:=?_
    off:=?_
    offP:=hR₁.offP
    var:=?_
    vinj:=hR₁.vinj
    cnt:=?_
    idok:=?_
    wlt:=?_
    tk:=zznlv hR₁.tk htk
    idoff:=?_}
  ·refine ze13 hR₁.tab fun ps hp ht hc=>?_;refine⟨ps,up _ _ (Ne.symm hTP) hp,ht,fun pos cv e=>?_⟩;refine ze24 (hc pos cv e) fun c q e1' e2 e3 z0=>?_;refine ze44 z0 fun c' o vs t e4 e5 e6 e7=>?_;clear z0;subst e1';cases e4;exact⟨c,q,rfl,e2,e3,c,o,vs,t,rfl,up _ _ (fun h=>by rw[h,hoT] at e5;cases e5;exact hdT vs e6) e5,e6,e7⟩
  ·intro k sl' l h1 h2;rcases own' k sl' l h1 h2 with ⟨rfl,rfl⟩ | ⟨hk,h0⟩
   ·rw[hadr,if_pos rfl];exact fun h=>(ha l h2).2.2.1 (.inl h)
   ·rw[hadr,if_neg hk];exact hR₁.adrL k sl' l h0 h2
  ·intro k sl' l h1 h2 y c hy;rcases own' k sl' l h1 h2 with ⟨rfl,rfl⟩ | ⟨hk,h0⟩
   ·rw[hadr,if_pos rfl];exact fun h=>(ha l h2).2.2.1 (.inr (.inl ⟨y,h▸hy⟩))
   ·rw[hadr,if_neg hk];exact hR₁.adrC k sl' l h0 h2 y c hy
  ·intro k sl' l k2 sl2 l2 h1 h2 h3 h4 h5;rcases own' k sl' l h1 h2 with ⟨rfl,rfl⟩ | ⟨hk,h0⟩<;>rcases own' k2 sl2 l2 h3 h4 with ⟨rfl,rfl⟩ | ⟨hk2,h02⟩
   ·rfl
   ·rw[hadr,hadr,if_pos rfl,if_neg hk2] at h5;exact absurd (.inr (.inr ⟨k2,sl2,l2,h02,h4,h5.symm⟩)) (ha l h2).2.2.1
   ·rw[hadr,hadr,if_neg hk,if_pos rfl] at h5;exact absurd (.inr (.inr ⟨k,sl',l,h0,h2,h5⟩)) (ha l2 h4).2.2.1
   ·rw[hadr,hadr,if_neg hk,if_neg hk2] at h5;exact hR₁.adrA k sl' l k2 sl2 l2 h0 h2 h02 h4 h5
  ·intro k sl' l h1 h2;rcases own' k sl' l h1 h2 with ⟨rfl,rfl⟩ | ⟨hk,h0⟩
   ·rw[hadr,if_pos rfl];exact(ha l h2).2.1
   ·rw[hadr,if_neg hk];exact fun h=>hR₁.adrWo k sl' l h0 h2 (hWo _ h)
  ·intro b hb;rcases Own_old b hb with h | ⟨rfl,l,hl⟩
   ·exact hR₁.off b h
   ·exact⟨(ha l hl).2.2.2.2.1,(ha l hl).2.2.2.2.2,(ha l hl).2.2.2.1⟩
  ·intro y k hy;refine ze02 (hR₁.var y k hy) fun hr z1=>?_;refine ze12 z1 fun s0 h0 hs0=>?_;clear z1;refine⟨hr,?_⟩;by_cases hxy:y=x
   ·subst hxy;rw[hv] at hy;cases hy;exact⟨sl,hη▸zBc hilt,hsl'⟩
   ·have hk:k≠i:=fun h=>hxy (hR₁.vinj y x i (h▸hy) hv);refine ze12 (zHA (sl:=sl) hk h0) fun sl' h1 h2=>?_;rw[hη] at h1;refine⟨sl',h1,?_⟩;rw[hvo y hxy];rcases h2 with rfl | ⟨rfl,rfl⟩
    ·cases sl' with
     | undef=>trivial
     | val v=>obtain⟨v',e,r⟩:=hs0;exact⟨v',e,r.mono (fun _x _x e=>e) hh hw⟩
     | own l=>
      refine ze02 hs0 fun e z2=>?_;clear hs0;refine ze13 z2 fun vs hz hl r=>?_;clear z2;refine⟨by rw[hadr,if_neg hk];exact e,vs,hz,?_,r.mono (fun _x _x e=>e) hh hw⟩;rw[hadr,if_neg hk];have hO:Own env gh η (gh.adr k):=.inr (.inr ⟨k,_,l,h0,rfl,rfl⟩);refine hl.at fun o e=>up _ _ (fun h=>?_) e;rcases hT with q | ⟨z,q⟩
      ·exact hR₁.adrL k _ l h0 rfl (h.trans q)
      ·exact hR₁.adrC k _ l h0 rfl z T q h
     | ownP l=>
      refine ze02 hs0 fun e z3=>?_;clear hs0;refine ze13 z3 fun vs hz hl r=>?_;clear z3;refine⟨by rw[hadr,if_neg hk];exact e,vs,hz,?_,r.mono (fun _x _x e=>e) hh hw⟩;rw[hadr,if_neg hk];have hO:Own env gh η (gh.adr k):=.inr (.inr ⟨k,_,l,h0,rfl,rfl⟩);refine hl.at fun o e=>up _ _ (fun h=>?_) e;rcases hT with q | ⟨z,q⟩
      ·exact hR₁.adrL k _ l h0 rfl (h.trans q)
      ·exact hR₁.adrC k _ l h0 rfl z T q h
     | app r=>
      refine ze24 hs0 fun b l q1 q2 q3 q4=>?_;clear hs0;have hri:r≠i:=by
       rintro rfl
       have:(setS η r sl)[k]? = ((η.map (kill r)).set r sl)[k]?:=by unfold setS;rw[q2]
       rw[←hη,this,List.getElem?_set_ne (Ne.symm hk),List.getElem?_map,h0] at h1;simp[kill] at h1
      refine⟨b,l,q1,hη▸zC0 hri q2,hw b _ q4 q3,?_⟩;rw[hadr,if_neg hri];exact hh b _ q3 q4
     | cnt n=>exact hs0
    ·trivial
  ·intro k n h1;by_cases hk:k=i
   ·subst hk;rw[←hη,zBc hilt] at h1;cases h1;exact hsl'
   ·refine ze12 (zA8 hk (hη▸h1)) fun s0 h0 h3=>?_;rcases h3 with rfl | ⟨h4,_⟩
    ·exact hR₁.cnt k n h0
    ·cases h4
  ·refine⟨fun n b e=>?_,hR₁.idok.nodup⟩;refine ze12 (hR₁.idok.there n b e) fun o ho hc=>?_;exact⟨o,up b o (fun h=>hR₁.idoff n b e (h▸hTW)) ho,hc⟩
  ·intro b hb;rw[hsz];rcases hb with h | h | h
   ·exact hR₁.wlt b (.inl (hWo b h))
   ·exact hR₁.wlt b (.inr (.inl h))
   ·rcases Own_old b h with h | ⟨rfl,l,hl⟩
    ·exact hR₁.wlt b (.inr (.inr h))
    ·exact hR₁.wlt b (.inl (ha l hl).1)
  ·intro n b e hb;rcases hb with h | h | hb
   ·exact hR₁.idoff n b e (.inl (hWo b h))
   ·exact hR₁.idoff n b e (.inr (.inl h))
   rcases Own_old b hb with h | ⟨rfl,l,hl⟩
   ·exact hR₁.idoff n b e (.inr (.inr h))
   ·exact hR₁.idoff n b e (.inl (ha l hl).1)
 exact abs _ _ rfl rfl
end
section
variable {g:GC} {j:Nat} {fs:FS}
theorem R.isold {ids h}{W:Addr→Prop}{v x}{a:Addr}(ha:∀ o,h.get? a≠some o)(r:R ids h W v x):R ids h (fun b=>W b∨b=a) v x:=
 r.mono (fun _x _x e=>e) (fun _x _x _x e=>e) fun b o e hn h=>h.elim hn fun q=>ha o (q▸e)
theorem RL.isold {ids h}{W:Addr→Prop}{v x}{a:Addr}(ha:∀ o,h.get? a≠some o)(r:RL ids h W v x):RL ids h (fun b=>W b∨b=a) v x:=
 r.mono (fun _x _x e=>e) (fun _x _x _x e=>e) fun b o e hn h=>h.elim hn fun q=>ha o (q▸e)
noncomputable def SimN (g:GC)(j:Nat)(fs:FS)(e:Expr)(f:List Slot→Option (List V)):Prop:=
 ∀ (A:Around) (ids:List Addr) (Wo:Addr→Prop) (env:Env) (gh:Gh) (η:List Slot) (kp:Addr→Option Obj) (s:Shared) (xs:List V),
  AOk j A→EnvOk fs env→Rel g ids Wo env fs.vm gh η kp s→f η=some xs→
  wpAny (model g.prog g.w) A (eval e env) (fun v s'=>Ext g s s'∧∃ a vs,v=.ref a∧s.heap.objs.size≤a∧s'.heap.PlainList a (List.toArray vs)∧xs.length≤sizeLine∧RL ids s'.heap (fun b=>Wt g Wo env gh η b∨b=a) vs xs) (fun _ _=>False) s
theorem zAf {h:Heap}{a:Addr}(ha:h.objs.size≤a):∀ o,h.get? a≠some o:=fun _x e=>absurd (Heap.lt_size e) (Nat.not_lt.mpr ha)
set_option tactic.hygienic true in
theorem SimN.lst {es pos f}(h:SimA g j fs pos es f):SimN g j fs (.List es pos) (fun η=>(f η).bind fun xs=>if xs.length≤1000 then some xs else none):=by
 intro A ids Wo env gh η kp s v hA hE hR hx;refine zbd hx fun xs hf hx=>?_;split at hx
 ·rename_i hz;have hx':=zzosi hx;subst hx';refine List_ (zzwqm (h A ids Wo env gh η kp s _ hA hE hR hf) (fun vs s₁ q=>?_) fun _x _x h=>h);refine ze02 q fun e1 r1=>?_;clear q;have hz':xs.length≤sizeLine:=by rw[sizeLine_eq];exact zznlt hz (zznal _ _)
  refine wpAny_newList ⟨e1.trans (Ext.push _),_,vs,rfl,e1.size,⟨0,Heap.get?_push_size _ rfl⟩,hz',?_⟩ (by rw[r1.length];exact hz');exact(r1.isold (zAf (zznlr _))).mono (fun _x _x e=>e) (fun _x _x _x e=>Heap.get?_push_of_some _ e) fun _x _x _x h=>h
 ·exact noneE hx
theorem zGa {a:Addr}{h:Heap}:Heap.SameBut a h h:=.refl ..
theorem zEJ {A:Around}{ids:List Addr}{Wo1 Wo:Addr→Prop}{env gh η kp}{s₁:Shared}{x:Str}{i:Nat}{v:Value}{sl:Slot}{a:Addr}(hE:EnvOk fs env)(hR₁:Rel g ids Wo1 env fs.vm gh η kp s₁)(hWo:∀ b,Wo b→Wo1 b)(hv:fs.vm x=some i)
  (ha:∀ l,sl.owned? = some l→Wo1 a∧¬Wo a∧¬Own env gh η a∧a≠g.P∧kp a=none∧g.h0.get? a=none)
  (hsl:∀ (s':Shared) (m' cm':Str→Option Value) (T:Addr),(T=env.locals∨∃ y,env.cells.lookup y=some T)→Heap.SameBut T s₁.heap s'.heap→
   zA3 ids s'.heap (Wt g Wo env ⟨m',cm',fun k=>if k=i then a else gh.adr k⟩ (setS η i sl)) (fun k=>if k=i then a else gh.adr k) (setS η i sl) i sl (some v)):
  wpAny (model g.prog g.w) A (storeName env x v) (fun _x s'=>∃ gh':Gh,gh'.adr=(fun k=>if k=i then a else gh.adr k)∧Rel g ids Wo env fs.vm gh' (setS η i sl) kp s'∧s₁.heap.objs.size≤s'.heap.objs.size∧
   (env.kindOf x=some .local→∀ b o,b≠env.locals→s₁.heap.get? b=some o→s'.heap.get? b=some o)) Fl s₁:=by
 refine ze02 (hR₁.var x i hv) fun hr _=>?_;rcases hr with hl | ⟨hl,hn,c,hc⟩
 ·refine wpAny_storeName_local hl hR₁.ns (fun h' hn' hs'=>?_) (by rw[hE.kind];rfl);have hcell:∀ y c,env.cells.lookup y=some c→h'.IsCell c (gh.cm y):=fun y c e=>(hR₁.cell y c e).sameBut hs' (hR₁.lcell y c e);refine⟨_,rfl,hR₁.put (s':={s₁ with heap:=h',toks:=s₁.toks+1}) hWo hv (.inl rfl) hs' rfl rfl (Nat.le_succ _) hn' hcell (fun y hy=>?_) ha ?_,?_,?_⟩
  ·exact zKy hy
  ·have:valOf env ⟨(fun y=>if y=x then some v else gh.m y),gh.cm,gh.adr⟩ x=some v:=(zDX hl).trans (if_pos rfl);rw[this];exact hsl _ _ _ _ (.inl rfl) hs'
  ·exact Nat.le_of_eq hs'.1.symm
  ·exact fun _x b o hb e=>hs'.extBut b o hb e
 ·have hcc:=hR₁.cell x c hc
  have hst:∀ {Q:Unit→Shared→Prop},(∀ h',h'.IsCell c (some v)→Heap.SameBut c s₁.heap h'→Q () {s₁ with heap:=h'})→wpAny (model g.prog g.w) A (storeName env x v) Q Fl s₁:=by
   intro Q h;rcases hl with hl | hl
   ·exact wpAny_storeName_cell hE.kind hl hc hcc h
   ·unfold storeName;rw[hl,hE.kind];exact zzwqb (wpAny_cellOf hc (wpAny_cellSet hcc h))
  refine hst fun h' hv' hs'=>?_;have hns:h'.Ns env.locals gh.m:=hR₁.ns.sameBut hs' (Ne.symm (hR₁.lcell x c hc))
  have hcell:∀ y c',env.cells.lookup y=some c'→h'.IsCell c' (if y=x then some v else gh.cm y):=fun y c' e=>by
   by_cases hy:y=x
   ·subst hy;rw[hc] at e;cases e;simpa using hv'
   ·simpa [hy] using (hR₁.cell y c' e).sameBut hs' (fun q=>hy (hR₁.capart y x c (q▸e) hc))
  refine⟨_,rfl,hR₁.put (s':={s₁ with heap:=h'}) hWo hv (.inr ⟨x,hc⟩) hs' rfl rfl (zznlr _) hns hcell (fun y hy=>?_) ha ?_,?_,?_⟩
  ·exact zIN hy
  ·have hnl:env.kindOf x≠some .local:=by rcases hl with hl | hl<;>rw[hl]<;>intro q<;>cases q
   have:valOf env ⟨gh.m,(fun y=>if y=x then some v else gh.cm y),gh.adr⟩ x=some v:=(zBM hnl).trans (if_pos rfl);rw[this];exact hsl _ _ _ _ (.inr ⟨x,hc⟩) hs'
  ·exact Nat.le_of_eq hs'.1.symm
  ·intro q;rcases hl with hl | hl<;>rw[hl] at q<;>cases q
theorem zCY {A:Around}{ids Wo env gh η kp}{s s₁:Shared}{x:Str}{i:Nat}{v:Value}{sl:Slot}{a:Addr}(hE:EnvOk fs env)(hR:Rel g ids Wo env fs.vm gh η kp s)(e1:Ext g s s₁)(hv:fs.vm x=some i)
  (ha:∀ l,sl.owned? = some l→s.heap.objs.size≤a∧a<s₁.heap.objs.size∧a≠g.P)
  (hsl:∀ (s':Shared) (m' cm':Str→Option Value) (T:Addr),(T=env.locals∨∃ y,env.cells.lookup y=some T)→Heap.SameBut T s₁.heap s'.heap→
   zA3 ids s'.heap (Wt g Wo env ⟨m',cm',fun k=>if k=i then a else gh.adr k⟩ (setS η i sl)) (fun k=>if k=i then a else gh.adr k) (setS η i sl) i sl (some v)):
  wpAny (model g.prog g.w) A (storeName env x v) (fun _x s'=>∃ gh':Gh,gh'.adr=(fun k=>if k=i then a else gh.adr k)∧Rel g ids Wo env fs.vm gh' (setS η i sl) kp s'∧s.heap.objs.size≤s'.heap.objs.size∧
   (env.kindOf x=some .local→∀ b o,b≠env.locals→s₁.heap.get? b=some o→s'.heap.get? b=some o)) Fl s₁:=by
 have hno:∀ o,s.heap.objs.size≤a→s.heap.get? a≠some o:=fun o h=>zAf h o
 have hR₁:Rel g ids (fun b=>Wo b∨(b=a∧∃ l,sl.owned? = some l)) env fs.vm gh η kp s₁:=hR.more e1 (fun b h=>.inl h) fun b hb=>by
  rcases hb with h | ⟨rfl,l,hl⟩
  ·exact .inl h
  ·exact .inr ⟨(ha l hl).1,(ha l hl).2.1⟩
 refine zzwqm (zEJ hE hR₁ (fun b h=>.inl h) hv (fun l hl=>⟨.inr ⟨rfl,l,hl⟩,fun h=>absurd (hR.wlt a (.inl h)) (Nat.not_lt.mpr (ha l hl).1),fun h=>absurd (hR.ownLt h) (Nat.not_lt.mpr (ha l hl).1),(ha l hl).2.2,?_,?_⟩) hsl) (fun _ s' ⟨gh',q1,q2,q3,q4⟩=>⟨gh',q1,q2,Nat.le_trans e1.size q3,q4⟩) fun _x _x h=>h
 ·cases q:kp a with
  | none=>rfl
  | some o=>exact absurd (hR.keep a o q) (hno o (ha l hl).1)
 ·cases q:g.h0.get? a with
  | none=>rfl
  | some o=>exact absurd (hR.keep0 a o q) (hno o (ha l hl).1)
theorem zFO {P Q:Gh→Prop}{N M:Prop}(h:∃ gh':Gh,P gh'∧Q gh'∧N∧M):∃ gh',Q gh'∧N:=⟨h.choose,h.choose_spec.2.1,h.choose_spec.2.2.1⟩
theorem zI5 {A:Around}{ids Wo env gh η kp}{s s₁:Shared}{x:Str}{i:Nat}{v:Value}{sl:Slot}{a:Addr}(hE:EnvOk fs env)(hR:Rel g ids Wo env fs.vm gh η kp s)(e1:Ext g s s₁)(hv:fs.vm x=some i)
  (ha:∀ l,sl.owned? = some l→s.heap.objs.size≤a∧a<s₁.heap.objs.size∧a≠g.P)
  (hsl:∀ (s':Shared) (m' cm':Str→Option Value) (T:Addr),(T=env.locals∨∃ y,env.cells.lookup y=some T)→Heap.SameBut T s₁.heap s'.heap→
   zA3 ids s'.heap (Wt g Wo env ⟨m',cm',fun k=>if k=i then a else gh.adr k⟩ (setS η i sl)) (fun k=>if k=i then a else gh.adr k) (setS η i sl) i sl (some v)):
  wpAny (model g.prog g.w) A (storeName env x v) (fun _x s'=>∃ gh',Rel g ids Wo env fs.vm gh' (setS η i sl) kp s'∧s.heap.objs.size≤s'.heap.objs.size) Fl s₁:=
 zzwqm (zCY hE hR e1 hv ha hsl) (fun _x _x h=>zFO h) fun _x _x h=>h
theorem zB6 {env:Env}{gh:Gh}{η:List Slot}{i:Nat}{m' cm':Str→Option Value}{a:Addr}{sl:Slot}{b:Addr}(hi:i<η.length)(h:Own env ⟨m',cm',fun k=>if k=i then a else gh.adr k⟩ (setS η i sl) b):
  Own env gh η b∨(b=a∧∃ l,sl.owned? = some l):=by
 rcases h with h | h | ⟨k,sl',l,h1,h2,h3⟩
 ·exact .inl (.inl h)
 ·exact .inl (.inr (.inl h))
 ·by_cases hk:k=i
  ·subst hk;rw[zBc hi] at h1;cases h1;simp at h3;exact .inr ⟨h3.symm,l,h2⟩
  ·refine ze12 (zA8 hk h1) fun s0 h0 h4=>?_;simp[hk] at h3;rcases h4 with rfl | ⟨rfl,_⟩
   ·exact .inl (.inr (.inr ⟨k,_,l,h0,h2,h3⟩))
   ·exact noneE h2
theorem zBs {A:Around}{ids Wo env gh η kp}{s s₁:Shared}{x:Str}{i:Nat}{v:Value}{y:V}(hE:EnvOk fs env)(hR:Rel g ids Wo env fs.vm gh η kp s)(e1:Ext g s s₁)(hv:fs.vm x=some i)
  (r:R ids s₁.heap (Wt g Wo env gh η) v y):
  wpAny (model g.prog g.w) A (storeName env x v) (fun _x s'=>∃ gh':Gh,gh'.adr=gh.adr∧Rel g ids Wo env fs.vm gh' (setS η i (.val y)) kp s'∧s.heap.objs.size≤s'.heap.objs.size∧
   (env.kindOf x=some .local→∀ b o,b≠env.locals→s₁.heap.get? b=some o→s'.heap.get? b=some o)) Fl s₁:=by
 have hi:i<η.length:=by obtain⟨_,sl0,h0,_⟩:=hR.var x i hv;exact(List.getElem?_eq_some_iff.mp h0).1
 refine zzwqm (zCY (sl:=.val y) (a:=gh.adr i) hE hR e1 hv (fun l q=>by exact noneE q) fun s' m' cm' T hT hs'=>⟨v,rfl,?_⟩) (fun _ _ ⟨gh',ha,h⟩=>⟨gh',ha.trans (by funext k;split<;>simp[*]),h⟩) fun _x _x h=>h;refine(r.keeps (h':=s'.heap) fun b o hb e=>?_).sub fun b hb=>?_
 ·refine hs'.extBut b o (fun h=>hb ?_) e;subst h;exact .inr (.inr (hT.elim .inl fun h=>.inr (.inl h)))
 ·rcases hb with h | h | h
  ·exact .inl h
  ·exact .inr (.inl h)
  ·rcases zB6 hi h with h | ⟨_,l,hl⟩
   ·exact .inr (.inr h)
   ·exact noneE hl
theorem zBt {A:Around}{ids Wo env gh η kp}{s s₁:Shared}{x:Str}{i:Nat}{v:Value}{y:V}(hE:EnvOk fs env)(hR:Rel g ids Wo env fs.vm gh η kp s)(e1:Ext g s s₁)(hv:fs.vm x=some i)
  (r:R ids s₁.heap (Wt g Wo env gh η) v y):
  wpAny (model g.prog g.w) A (storeName env x v) (fun _x s'=>∃ gh',Rel g ids Wo env fs.vm gh' (setS η i (.val y)) kp s'∧s.heap.objs.size≤s'.heap.objs.size) Fl s₁:=
 zzwqm (zBs hE hR e1 hv r) (fun _x _x h=>zFO h) fun _x _x h=>h
theorem zEK {A:Around}{ids Wo env gh η kp}{s s₁:Shared}{x:Str}{i:Nat}{a:Addr}{vs:List Value}{xs:List V}(hE:EnvOk fs env)(hR:Rel g ids Wo env fs.vm gh η kp s)(e1:Ext g s s₁)(hv:fs.vm x=some i)
  (ha:s.heap.objs.size≤a) (hl:s₁.heap.PlainList a vs.toArray) (hz:xs.length≤sizeLine) (r:RL ids s₁.heap (fun b=>Wt g Wo env gh η b∨b=a) vs xs):
  wpAny (model g.prog g.w) A (storeName env x (.ref a)) (fun _x s'=>∃ gh':Gh,gh'.adr=(fun k=>if k=i then a else gh.adr k)∧Rel g ids Wo env fs.vm gh' (setS η i (.own xs)) kp s'∧s.heap.objs.size≤s'.heap.objs.size∧
   (env.kindOf x=some .local→∀ b o,b≠env.locals→s₁.heap.get? b=some o→s'.heap.get? b=some o)) Fl s₁:=by
 have hi:i<η.length:=by obtain⟨_,sl0,h0,_⟩:=hR.var x i hv;exact(List.getElem?_eq_some_iff.mp h0).1
 have haP:a≠g.P:=fun h=>by
  refine ze12 hR.tab fun ps hp _=>?_;exact absurd (h▸Heap.lt_size hp) (Nat.not_lt.mpr ha)
 have hlt:a<s₁.heap.objs.size:=by obtain⟨n,h⟩:=hl;exact Heap.lt_size h
 refine zCY (a:=a) hE hR e1 hv (fun l _x=>⟨ha,hlt,haP⟩) fun s' m' cm' T hT hs'=>⟨by simp,vs,hz,?_,?_⟩
 ·have haT:a≠T:=fun h=>by
   rcases hT with q | ⟨y,q⟩
   ·obtain⟨o,_,_,ho,_⟩:=hR.ns;have:=Heap.lt_size ho;rw[←q,←h] at this;exact absurd this (Nat.not_lt.mpr ha)
   ·obtain⟨o,ho,_⟩:=hR.cell y T q;have:=Heap.lt_size ho;rw[←h] at this;exact absurd this (Nat.not_lt.mpr ha)
  simp only[if_true];exact hl.at fun o e=>hs'.extBut _ _ haT e
 ·refine(r.keeps (h':=s'.heap) fun b o hb e=>?_).sub fun b hb=>?_
  ·refine hs'.extBut b o (fun h=>hb (.inl ?_)) e;subst h;exact .inr (.inr (hT.elim .inl fun h=>.inr (.inl h)))
  ·rcases hb with h | h | h
   ·exact .inl (.inl h)
   ·exact .inl (.inr (.inl h))
   ·rcases zB6 hi h with h | ⟨h,_⟩
    ·exact .inl (.inr (.inr h))
    ·exact .inr h
theorem zI6 {A:Around}{ids Wo env gh η kp}{s s₁:Shared}{x:Str}{i:Nat}{a:Addr}{vs:List Value}{xs:List V}(hE:EnvOk fs env)(hR:Rel g ids Wo env fs.vm gh η kp s)(e1:Ext g s s₁)(hv:fs.vm x=some i)
  (ha:s.heap.objs.size≤a) (hl:s₁.heap.PlainList a vs.toArray) (hz:xs.length≤sizeLine) (r:RL ids s₁.heap (fun b=>Wt g Wo env gh η b∨b=a) vs xs):
  wpAny (model g.prog g.w) A (storeName env x (.ref a)) (fun _x s'=>∃ gh',Rel g ids Wo env fs.vm gh' (setS η i (.own xs)) kp s'∧s.heap.objs.size≤s'.heap.objs.size) Fl s₁:=
 zzwqm (zEK hE hR e1 hv ha hl hz r) (fun _x _x h=>zFO h) fun _x _x h=>h
theorem stored {ids Wo env vm kp}{s:Shared}{η'}{s₂:Shared}(h:∃ gh',Rel g ids Wo env vm gh' η' kp s₂∧s.heap.objs.size≤s₂.heap.objs.size):PS g ids Wo env vm kp s .next η' .next s₂:=
 let ⟨gh',h,hz⟩:=h
 ⟨ids,gh',fun _x _x e=>e,h,trivial,hz⟩
noncomputable def asg (f:List Slot→Option V)(i:Nat):List Slot→Option (Out×List Slot):=fun η=>(f η).bind fun v=>some (.next,setS η i (.val v))
theorem Sim1.assign {x:Str}{i:Nat}{e:Expr}{p pos f}(he:SimE g j fs e f)(hv:fs.vm x=some i)(hsw:∀ env,swapsWith e (some (.Name x p)) pos.line env=pure false):
  Sim1 g j fs (.Assign [.Name x p] e pos) (asg f i):=by
 intro A ids Wo env gh η kp s o η' hA hE hR hx;refine zbd hx fun v hf hx=>?_;cases hx;refine wpAny_Assign_Name (zzwqm (he A ids Wo env gh η kp s v hA hE hR hf) (fun a s₁ q=>?_) fun _x _x h=>h) (hsw env);refine ze02 q fun e1 r1=>?_;clear q;exact zzwqm (zBt hE hR e1 hv r1) (fun _x s₂ h=>stored h) fun _x _x h=>h
noncomputable def zA6 (f:List Slot→Option (List V))(i:Nat):List Slot→Option (Out×List Slot):=fun η=>(f η).bind fun v=>some (.next,setS η i (.own v))
theorem zPi {x:Str}{i:Nat}{e:Expr}{p pos f}(he:SimN g j fs e f)(hv:fs.vm x=some i)(hsw:∀ env,swapsWith e (some (.Name x p)) pos.line env=pure false):
  Sim1 g j fs (.Assign [.Name x p] e pos) (zA6 f i):=by
 intro A ids Wo env gh η kp s o η' hA hE hR hx;refine zbd hx fun v hf hx=>?_;cases hx;refine wpAny_Assign_Name (zzwqm (he A ids Wo env gh η kp s v hA hE hR hf) (fun a s₁ h=>?_) fun _x _x h=>h) (hsw env);refine ze02 h fun e1 z4=>?_;clear h;refine ze25 z4 fun b vs hb h1 h2 h3 h4=>?_;clear z4;subst hb;exact zzwqm (zI6 hE hR e1 hv h1 h2 h3 h4) (fun _x s₂ h=>stored h) fun _x _x h=>h
noncomputable def iopV (_:Operator):V→V→Option V:=on2 (fun a b=>some (.int (a+b))) addT no2 no2 no2 no2
theorem zJS:Op2 g j (inplaceOp .Add) (iopV .Add):=by
 intro A ids W s a b x y r hA hW ra rb h;replace h:=zAF h;cases h with
 | ii h=>cases h;obtain⟨t,rfl⟩:=ra.int;obtain⟨u,rfl⟩:=rb.int;exact iadd_int ⟨Ext.toks ..,.int _ _⟩
 | ss h=>
  refine ze02 (zAl h) fun hz h=>?_;cases h;obtain⟨t,rfl,c1,_⟩:=ra.str;obtain⟨u,rfl,c2,_⟩:=rb.str;refine up (iadd_str (fun t' tk hk=>⟨Ext.toks ..,?_⟩) (by simpa [Str.length] using hz));rw[zBw];exact zL6 c1 c2 hz
 | _ h=>exact noneE h
noncomputable def aug (i:Nat)(f:List Slot→Option V):List Slot→Option (Out×List Slot):=fun η=>(rd η i).bind fun x=>(f η).bind fun y=>(iopV .Add x y).bind fun v=>some (.next,setS η i (.val v))
theorem zQq {x:Str}{i:Nat}{e:Expr}{p pos f}(he:SimC g j fs e f)(hv:fs.vm x=some i):Sim1 g j fs (.AugAssign (.Name x p) .Add e pos) (aug i f):=by
 intro A ids Wo env gh η kp s o η' hA hE hR hx;refine zbd hx fun y hy hx=>?_;refine zbd hx fun z hz hx=>?_;refine zbd hx fun v hf hx=>?_;cases hx;refine ze02 (hR.var x i hv) fun hr z5=>?_;refine ze12 z5 fun sl hi hs=>?_;clear z5;replace hy:(η[i]?).bind Slot.rd=some y:=hy;rw[hi] at hy;cases sl with
 | val v'=>
  cases hy;refine ze12 hs fun v1 e0 r0=>?_;clear hs;refine wpAny_AugAssign_Name (zAR hE hR hr e0 ?_);refine zzwqm (he A ids Wo env gh η kp s z hA hE hR hz) (fun a s₁ q=>?_) fun _x _x h=>h;refine ze02 q fun e1 r1=>?_;clear q;refine zzwqm (zJS (j:=j) A ids _ s₁ v1 a y z v hA (hR.wok.ext e1) (.ofR (r0.keeps (e1.hext Wt_P))) r1 hf) (fun c s₃ q=>?_) fun _x _x h=>h;refine ze02 q fun e3 r3=>?_;clear q;exact zzwqm (zBt hE hR (e1.trans e3) hv r3) (fun _x s₂ h=>stored h) fun _x _x h=>h
 | _=>exact noneE hy
theorem Sim1.ret {e:Expr}{pos f}(he:SimE g j fs e f):Sim1 g j fs (.Return (some e) pos) (fun η=>(f η).bind fun v=>some (.ret v,η)):=by
 intro A ids Wo env gh η kp s o η' hA hE hR hx;refine zbd hx fun v hf hx=>?_;cases hx;exact wpAny_Return_some (zzwqm (he A ids Wo env gh η kp s v hA hE hR hf) (fun a s₁ q=>⟨ids,gh,fun _x _x e=>e,hR.ext q.1,q.2,q.1.size⟩) fun _x _x h=>h)
theorem Sim1.brk {pos}:Sim1 g j fs (.Break pos) (fun η=>some (.brk,η)):=by
 intro A ids Wo env gh η kp s o η' hA hE hR hx;cases hx;exact wpAny_Break ⟨ids,gh,fun _x _x e=>e,hR,trivial,Nat.le_refl _⟩
set_option tactic.hygienic true in
theorem zPC {t:Expr}{pos f}(ht:SimT g j fs t f):Sim1 g j fs (.Assert t none pos) (fun η=>(f η).bind fun b=>if b=true then some (.next,η) else none):=by
 intro A ids Wo env gh η kp s o η' hA hE hR hx;refine zbd hx fun b hf hx=>?_;split at hx
 ·rename_i hb;cases hx;exact wpAny_Assert_holds (zzwqm (ht A ids Wo env gh η kp s b hA hE hR hf) (fun a s₁ q=>⟨q.2.trans hb,ids,gh,fun _x _x e=>e,hR.ext q.1,trivial,q.1.size⟩) fun _x _x h=>h)
 ·exact noneE hx
noncomputable def ifS (t:List Slot→Option Bool)(F G:List Slot→Option (Out×List Slot)):List Slot→Option (Out×List Slot):=fun η=>(t η).bind fun b=>if b=true then F η else G η
theorem zQm {t:Expr}{b o:List Stmt}{pos f F G}(ht:SimT g j fs t f)(hb:SimS g j fs b F)(ho:SimS g j fs o G):Sim1 g j fs (.If t b o pos) (ifS f F G):=by
 intro A ids Wo env gh η kp s o η' hA hE hR hx;refine zbd hx fun c hf hx=>?_;refine wpAny_If (zzwqm (ht A ids Wo env gh η kp s c hA hE hR hf) (fun a s₁ q=>?_) fun _x _x h=>h);refine ze02 q fun e1 r1=>?_;clear q;subst r1;cases a
 ·simp at hx ⊢;exact zzwqm (ho A ids Wo env gh η kp s₁ o η' hA hE (hR.ext e1) hx) (fun fl s₂ h=>h.trans (fun _x _x e=>e) e1.size) fun _x _x h=>h
 ·simp at hx ⊢;exact zzwqm (hb A ids Wo env gh η kp s₁ o η' hA hE (hR.ext e1) hx) (fun fl s₂ h=>h.trans (fun _x _x e=>e) e1.size) fun _x _x h=>h
end
section
variable {g:GC} {j:Nat} {fs:FS}
theorem Rel.touch {ids Wo env vm gh η kp}{s s':Shared}(hR:Rel g ids Wo env vm gh η kp s)(N:Addr→Prop)(hN:∀ b,N b→Wo b∧¬Own env gh η b∧b≠g.P∧kp b=none∧g.h0.get? b=none)
  (hh:∀ b o,¬N b→s.heap.get? b=some o→s'.heap.get? b=some o) (hz:s.heap.objs.size≤s'.heap.objs.size) (hg:AllBare s.gens→AllBare s'.gens) (ho:s'.os=s.os) (ht:s.toks≤s'.toks) (htab:TabOk g s'.heap):
  Rel g ids Wo env vm gh η kp s':=
 have hx:HExt (Wt g Wo env gh η) s.heap s'.heap:=fun b o hb e=>hh b o (fun h=>hb (.inl (hN b h).1)) e;have hown:∀ b o,Own env gh η b→s.heap.get? b=some o→s'.heap.get? b=some o:=fun b o hb e=>hh b o (fun h=>(hN b h).2.1 hb) e
 {keep0:=fun b o e=>hh b o (fun h=>by rw[(hN b h).2.2.2.2] at e;exact noneE e) (hR.keep0 b o e)
  keep:=fun b o e=>hh b o (fun h=>by rw[(hN b h).2.2.2.1] at e;exact noneE e) (hR.keep b o e)
  tab:=htab
  gens:=hg hR.gens
  os:=ho.trans hR.os
  ns:=hR.ns.at' fun o e=>hown _ _ (.inl rfl) e
  cell:=fun y c e=>let ⟨o,ho,hd⟩:=hR.cell y c e;⟨o,hown _ _ (.inr (.inl ⟨y,e⟩)) ho,hd⟩
  capart:=hR.capart
  lcell:=hR.lcell
  adrL:=hR.adrL
  adrC:=hR.adrC
  adrA:=hR.adrA
  adrWo:=hR.adrWo
  off:=hR.off
  offP:=hR.offP
  var:=fun x i hx'=>let ⟨a,sl,b,c⟩:=hR.var x i hx';⟨a,sl,b,c.mono hx (fun _x _x _x h=>h) fun l hl o ho=>hown _ _ (.inr (.inr ⟨i,sl,l,b,hl,rfl⟩)) ho⟩
  vinj:=hR.vinj
  cnt:=hR.cnt
  idok:=⟨fun n a e=>let ⟨o,h1,h2⟩:=hR.idok.there n a e;⟨o,hh a o (fun h=>hR.idoff n a e (.inl (hN a h).1)) h1,h2⟩,hR.idok.nodup⟩
  wlt:=fun b hb=>zznlv (hR.wlt b hb) hz
  tk:=zznlv hR.tk ht
  idoff:=hR.idoff}
open Classical in
noncomputable def kpAll (g:GC)(env:Env)(gh:Gh)(η:List Slot)(h:Heap)(b:Addr):Option Obj:=if Own env gh η b∨b=g.P then none else h.get? b
set_option tactic.hygienic true in
theorem zAz {env gh η}{h:Heap}{b o}:kpAll g env gh η h b=some o↔(¬Own env gh η b∧b≠g.P)∧h.get? b=some o:=by
 unfold kpAll;split
 ·rename_i q;constructor
  ·intro e;exact noneE e
  ·intro ⟨⟨a,b⟩,_⟩;exact(q.elim a b).elim
 ·rename_i q;simp only[not_or] at q;exact⟨fun e=>⟨q,e⟩,fun e=>e.2⟩
theorem zJG {env gh η}{h:Heap}{b}(hb:Own env gh η b):kpAll g env gh η h b=none:=by unfold kpAll;rw[if_pos (.inl hb)]
theorem zM4 {env gh η}{h:Heap}:kpAll g env gh η h g.P=none:=by unfold kpAll;rw[if_pos (.inr rfl)]
theorem Rel.all {ids Wo env vm gh η kp}{s:Shared}(hR:Rel g ids Wo env vm gh η kp s):Rel g ids Wo env vm gh η (kpAll g env gh η s.heap) s:=
 {hR with
  keep:=fun b o e=>(zAz.mp e).2
  off:=fun b hb=>⟨zJG hb,(hR.off b hb).2⟩
  offP:=⟨zM4,hR.offP.2⟩}
theorem Rel.kpOf {ids Wo env vm gh η kp}{s:Shared}(hR:Rel g ids Wo env vm gh η kp s){b o}(e:kp b=some o):kpAll g env gh η s.heap b=some o:=
 zAz.mpr ⟨⟨fun h=>(by rw[(hR.off b h).1] at e;exact noneE e),fun h=>(by rw[h,hR.offP.1] at e;exact noneE e)⟩,hR.keep b o e⟩
theorem Rel.back {ids Wo env vm gh η kp kp'}{s:Shared}(hR:Rel g ids Wo env vm gh η kp' s)(h:∀ b o,kp b=some o→kp' b=some o):Rel g ids Wo env vm gh η kp s:=
 have q:∀ b,kp' b=none→kp b=none:=fun b e=>by
  cases k:kp b with
  | none=>rfl
  | some o=>rw[h b o k] at e;cases e
 {hR with
  keep:=fun b o e=>hR.keep b o (h b o e)
  off:=fun b hb=>⟨q b (hR.off b hb).1,(hR.off b hb).2⟩
  offP:=⟨q _ hR.offP.1,hR.offP.2⟩}
theorem Rel.kept {ids ids' Wo env vm gh gh' η η' kp kp2}{s s':Shared}(hR:Rel g ids Wo env vm gh η kp2 s)(hR':Rel g ids' Wo env vm gh' η' kp s')(hk:∀ b o,kpAll g env gh η s.heap b=some o→kp b=some o):
  HExt (Wt g Wo env gh η) s.heap s'.heap∧∀ b o,s.heap.get? b=some o→¬Wt g Wo env gh η b→¬Wt g Wo env gh' η' b:=by
 have key:∀ b o,¬Wt g Wo env gh η b→s.heap.get? b=some o→kp b=some o:=fun b o hb e=>hk b o (zAz.mpr ⟨⟨fun h=>hb (.inr (.inr h)),fun h=>hb (.inr (.inl h))⟩,e⟩);refine⟨fun b o hb e=>hR'.keep b o (key b o hb e),fun b o e hb h=>?_⟩;rcases h with h | h | h
 ·exact hb (.inl h)
 ·exact hb (.inr (.inl h))
 ·have:=key b o hb e;rw[(hR'.off b h).1] at this;exact noneE this
noncomputable def zAk:Nat→(List Slot→Option Bool)→(List Slot→Option (Out×List Slot))→List Slot→Option (Out×List Slot)
 | 0,_,_,_=>none
 | n+1,t,F,η=>(t η).bind fun b=>if b=true then (F η).bind fun r=>match r.1 with
   | .next | .cont=>zAk n t F r.2
   | .brk=>some (.next,r.2)
   | .ret v=>some (.ret v,r.2)
  else some (.next,η)
theorem zBV {α:Type}{M:Model}{A:Around}{s:Shared}{t:Sem α}{Q:α→Shared→Prop}{E:Value→Shared→Prop}(h:wpAny M A t Q (fun _x _x=>False) s):wpAny M A t Q E s:=zzwqm h (fun _x _x h=>h) fun _x _x h=>h.elim
theorem zPT {N:Nat}{t:Expr}{b:List Stmt}{pos f F}(ht:SimT g j fs t f)(hb:SimS g j fs b F):Sim1 g j fs (.While t b [] pos) (zAk N f F):=by
 intro A ids Wo env gh η kp s o η' hA hE hR hx;refine wpAny_While (codeAny_whileLoop (fun n s₁=>∃ ids₁ gh₁ η₁,(∀ (n:Nat) (a:Addr),ids[n]? = some a→ids₁[n]? = some a)∧Rel g ids₁ Wo env fs.vm gh₁ η₁ kp s₁∧zAk n f F η₁=some (o,η')∧s.heap.objs.size≤s₁.heap.objs.size) ?_ N ⟨ids,gh,η,fun _x _x e=>e,hR,hx,Nat.le_refl _⟩)
 rintro n s₁ ⟨ids₁,gh₁,η₁,hi,hR₁,hx₁,hz⟩
 cases n with
 | zero=>exact noneE hx₁
 | succ n=>
  refine zbd hx₁ fun c hf hx₁=>?_;refine zBV (zzwqm (ht A ids₁ Wo env gh₁ η₁ kp s₁ c hA hE hR₁ hf) (fun a s₂ q=>?_) fun _x _x h=>h);refine ze02 q fun e1 r1=>?_;clear q;subst r1;cases a
  ·simp only[Bool.false_eq_true,if_false] at hx₁ ⊢;cases hx₁;exact wpAny_execs_nil ⟨ids₁,gh₁,hi,hR₁.ext e1,trivial,Nat.le_trans hz e1.size⟩
  ·simp only[if_true] at hx₁ ⊢;obtain⟨⟨o2,η2⟩,hF,hx₁⟩:=Option.bind_eq_some_iff.mp hx₁;refine zBV (zzwqm (hb A ids₁ Wo env gh₁ η₁ kp s₂ o2 η2 hA hE (hR₁.ext e1) hF) (fun fl s₃ hp=>?_) fun _x _x h=>h);obtain⟨ids₂,gh₂,hi₂,hR₂,hf₂,hz₂⟩:=hp;have hz3:=zznlt hz (zznlt e1.size hz₂);have hi3:∀ (n:Nat) (a:Addr),ids[n]? = some a→ids₂[n]? = some a:=fun n a e=>hi₂ n a (hi n a e);cases o2<;>cases fl<;>first | exact hf₂.elim | skip
   ·exact⟨n,Nat.lt_succ_self _,ids₂,gh₂,η2,hi3,hR₂,hx₁,hz3⟩
   ·cases hx₁;exact⟨ids₂,gh₂,hi3,hR₂,trivial,hz3⟩
   ·exact⟨n,Nat.lt_succ_self _,ids₂,gh₂,η2,hi3,hR₂,hx₁,hz3⟩
   ·cases hx₁;exact⟨ids₂,gh₂,hi3,hR₂,hf₂,hz3⟩
end
theorem zE4 (h:Heap)(a:Addr)(f:Obj→Obj):(h.update a f).objs.size=h.objs.size:=by
 cases h;simp[Heap.update]
theorem zD3 {M:Model}{Γ:Ctx}{p:Pos}{t:Sem Fin}{fs:List Frame}{s s':Shared}{e:End}(h:Runs M Γ p t fs s e s'):s.heap.objs.size≤s'.heap.objs.size:=by
 induction h<;>(try simp only[Shared.setGen,zE4,Heap.size_push] at *)<;>lia
theorem zIm {M:Model}{Γ:Ctx}{p:Pos}{g:Nat}{r:Resume}{s s':Shared}{res:GenResult}(h:Wakes M Γ p g r s res s'):s.heap.objs.size≤s'.heap.objs.size:=by
 unfold Wakes at h;split at h
 ·exact h.elim
 ·split at h
  ·obtain⟨e₁,s₁,hr,_,_,rfl⟩:=h;exact(zD3 hr:(s.setGen g .running).heap.objs.size≤s₁.heap.objs.size)
  ·rw[h.2];exact zznlr _
  ·rw[h.2];exact zznlr _
 ·obtain⟨e₁,s₁,hr,_,_,rfl⟩:=h;exact(zD3 hr:(s.setGen g .running).heap.objs.size≤s₁.heap.objs.size)
 ·rw[h.2];exact zznlr _
 ·rw[h.2];exact zznlr _
open Sem (wp)
theorem zMf {α:Type}(M:Model)(Γ:Ctx)(n:Nat)(t:Sem α):∀ (Q:α→Pos→Shared→Prop) (E:Value→Pos→Shared→Prop) (p:Pos) (s:Shared),n≤s.heap.objs.size→wp M Γ t Q E p s→
  wp M Γ t (fun a p' s'=>n≤s'.heap.objs.size∧Q a p' s') (fun e p' s'=>n≤s'.heap.objs.size∧E e p' s') p s:=by
 induction t with
 | pure a=>intro Q E p s hn h;exact⟨hn,h⟩
 | raise e=>intro Q E p s hn h;exact⟨hn,h⟩
 | unsupported _=>intro Q E p s _ h;exact h
 | finish _=>intro Q E p s _ h;exact h
 | rule _ k ih=>intro Q E p s hn h;exact ih () Q E p s hn h
 | «at» p' k ih=>intro Q E p s hn h;exact ih () Q E p' s hn h
 | load a _ k ih=>intro Q E p s hn h;obtain⟨o,ho,h⟩:=h;exact⟨o,ho,ih o Q E p s hn h⟩
 | update a _ f k ih=>intro Q E p s hn h;exact⟨h.1,ih () Q E p _ (by show n≤(s.heap.update a f).objs.size;rw[zE4];exact hn) h.2⟩
 | loadIfAlive a k ih=>intro Q E p s hn h;exact ih _ Q E p s hn h
 | point _ k ih=>intro Q E p s hn h;exact ih () Q E p s hn h
 | register _ _=>intro Q E p s _ h;exact h
 | alloc o k ih=>intro Q E p s hn h;exact ih _ Q E p _ (by show n≤(s.heap.push o).objs.size;rw[Heap.size_push];exact Nat.le_succ_of_le hn) h
 | fresh k ih=>intro Q E p s hn h;exact ih _ Q E p _ hn h
 | ask k ih=>intro Q E p s hn h;exact ih _ Q E p s hn h
 | choose src m k ih=>intro Q E p s hn h;exact⟨h.1,ih _ Q E p _ hn h.2⟩
 | os q _ k ih=>intro Q E p s hn h;exact ih _ Q E p _ hn h
 | call c hd _ _ k ih=>intro Q E p s hn h;obtain⟨r,s',hr,h⟩:=h;exact⟨r,s',hr,ih r Q E p s' (zznlt hn (zD3 hr)) h⟩
 | handled own k ih=>intro Q E p s hn h;exact ih _ Q E p s hn h
 | genState g k ih=>intro Q E p s hn h;obtain⟨st,hs,h⟩:=h;exact⟨st,hs,ih _ Q E p s hn h⟩
 | newGen c k ih=>intro Q E p s hn h;exact ih _ Q E p _ hn h
 | resume g r _ k ih=>intro Q E p s hn h;obtain⟨res,s',hw,h⟩:=h;exact⟨res,s',hw,ih res Q E p s' (zznlt hn (zIm hw)) h⟩
 | yield _ _ _ _=>intro Q E p s _ h;exact h
 | stack k ih=>intro Q E p s hn h;exact ih _ Q E p s hn h
 | fork _ _=>intro Q E p s _ h;exact h
 | thread k ih=>intro Q E p s hn h;exact ih _ Q E p s hn h
 | await _ _ _ _ _=>intro Q E p s _ h;exact h
theorem zAg {α:Type}{M:Model}{A:Around}{s:Shared}{t:Sem α}{Q:α→Shared→Prop}{E:Value→Shared→Prop}{n k:Nat}(hn:n≤s.heap.objs.size)(hk:k≤s.toks)
  (h:wpAny M A t (fun a s'=>n≤s'.heap.objs.size→k≤s'.toks→Q a s') E s):wpAny M A t Q E s:=by
 have h1:wpAny M A t (fun a s'=>n≤s'.heap.objs.size∧(n≤s'.heap.objs.size→k≤s'.toks→Q a s')) (fun e s'=>n≤s'.heap.objs.size∧E e s') s:=fun Γ p hΓ=>zMf M Γ n t _ _ p s hn (h Γ p hΓ);exact zzwqm (wpAny_toks_of hk h1) (fun _x _x x=>x.2.2 x.2.1 x.1) fun _x _x x=>x.2.2
end Mine.Internal
end
noncomputable section
open PySem PySem.W PySem.Calls PyProof.Rows
namespace Mine.Internal
section
variable {g:GC} {j:Nat} {fs:FS}
noncomputable def ItOk (h:Heap)(I:Addr):Prop:=
 ∃ o vs n,h.get? I=some o∧o.cls=.type n∧(n = "list_iterator"∨n = "tuple_iterator"∨n = "range_iterator"∨n = "str_ascii_iterator"∨n = "str_iterator")∧o.data=.fields vs∧∀ q t,vs[1]?≠some (.str q t)
theorem ItOk.code {h:Heap}{I:Addr}{q:Str}(x:ItOk h I):¬h.CodeRec (.ref I) q:=by
 rintro ⟨c,o,vs,t,e,ho,hd,hv⟩
 cases e;refine ze35 x fun o2 vs2 n ho2 _ _ hd2 hn=>?_;clear x;rw[ho] at ho2;cases ho2;rw[hd] at hd2;cases hd2;exact hn q t hv
theorem ItOk.goT {M:Model}{A:Around}{E:Value→Shared→Prop}{s:Shared}{I:Addr}{es:List Expr}{k:Nat}{p:Pos}{v:Value}{Q:Unit→Shared→Prop}(x:ItOk s.heap I)(hQ:Q () s):wpAny M A (letOwnedTupleGo (.Tuple es k p) (.ref I) v) Q E s:=by
 refine ze35 x fun o vs n ho hc hn hd _=>?_;clear x;cases v with
 | ref a=>
  show wpAny M A (load I >>= _) Q E s;refine zzwqb (wpAny_load ho ?_);rw[hc,hd];have hf:(["enumerate","zip","dict_itemiterator","dict_reverseitemiterator","odict_iterator","itertools.zip_longest","itertools.pairwise"].contains n)=false:=by
   rcases hn with rfl | rfl | rfl | rfl | rfl<;>decide
  dsimp only;rw[if_neg (by rw[hf];exact nofun)];exact zzwqp hQ
 | _=>exact zzwqp hQ
theorem ItOk.go {M:Model}{A:Around}{E:Value→Shared→Prop}{s:Shared}{I:Addr}{target:Expr}{v:Value}{Q:Unit→Shared→Prop}(x:ItOk s.heap I)(hQ:Q () s):wpAny M A (letOwnedTupleGo target (.ref I) v) Q E s:=by
 cases target with
 | Tuple=>exact x.goT hQ
 | List es p=>exact(x.goT hQ:wpAny M A (letOwnedTupleGo (.Tuple es 0 p) (.ref I) v) Q E s)
 | _=>exact zzwqp hQ
structure Wlk (g:GC)(I:Addr)(fp:List Addr)(n:Nat)(P:Nat→Value→Prop)(St:Nat→Heap→Prop):Prop where
 walks:∀ A':Around,A'.handled=none→Walks g.prog g.w A' I fp [I] n P St
 it:∀ i h,St i h→ItOk h I
noncomputable def zGj:V→Option (List V)
 | .lst l=>some l
 | .tup l=>some l
 | .str l=>some (l.map fun c=>.str [c])
 | _=>none
noncomputable def Src (g:GC)(j:Nat)(fs:FS)(iter:Expr)(f:List Slot→Option (List V)):Prop:=
 ∀ (A:Around) (ids:List Addr) (Wo:Addr→Prop) (env:Env) (gh:Gh) (η:List Slot) (kp:Addr→Option Obj) (s:Shared) (xs:List V),
  AOk j A→EnvOk fs env→Rel g ids Wo env fs.vm gh η kp s→f η=some xs→
  wpAny (model g.prog g.w) A (eval iter env) (fun x s₁=>wpAny (model g.prog g.w) A (pyIter x) (fun it s₂=>Ext g s s₂∧∃ I fp St P,it=.ref I∧s.heap.objs.size≤I∧I<s₂.heap.objs.size∧Wlk g I fp xs.length P St∧St 0 s₂.heap∧
   (∀ b∈fp,b=I∨(¬Wt g Wo env gh η b∧∃ o,s₂.heap.get? b=some o))∧∀ i v,P i v→∃ x,xs[i]? = some x∧R ids s₂.heap (fun b=>Wt g Wo env gh η b∨b=I) v x) Fl s₁) Fl s
theorem Src.seq {iter:Expr}{f}(he:SimE g j fs iter f):Src g j fs iter (fun η=>(f η).bind zGj):=by
 intro A ids Wo env gh η kp s xs hA hE hR hx;refine zbd hx fun x hf hx=>?_;refine zzwqm (he A ids Wo env gh η kp s x hA hE hR hf) (fun v s₁ q=>?_) fun _x _x h=>h;refine ze02 q fun e1 r1=>?_;clear q;have push:∀ o,HExt (fun b=>Wt g Wo env gh η b∨b=s₁.heap.objs.size) s₁.heap (s₁.heap.push o):=fun o b _x _x e=>Heap.get?_push_of_some _ e;cases r1 with
 | lst a vs xs' hz hl hn r=>
  cases hx;refine wpAny_pyIter_list hl ⟨e1.trans (Ext.push _),s₁.heap.objs.size,[s₁.heap.objs.size,a],fun i h=>h.IsListIter s₁.heap.objs.size a i∧h.IsList a vs.toArray,fun i v=>vs.toArray[i]? = some v,rfl,e1.size,by simp[Heap.size_push],⟨fun A' hA'=>?_,fun i h st=>?_⟩,?_,?_,?_⟩
  ·have hne:a≠s₁.heap.objs.size:=by obtain⟨o,ho,_⟩:=hl;exact Nat.ne_of_lt (Heap.lt_size ho)
   have:=Walks.list (prog:=g.prog) (w:=g.w) hA' s₁.heap.objs.size a hne vs.toArray;simpa [r.length] using this
  ·obtain⟨o,ho,hc,hd⟩:=st.1;exact⟨o,_,_,ho,hc,.inl rfl,hd,by simp⟩
  ·exact⟨⟨_,Heap.get?_push_size _ rfl,rfl,rfl⟩,hl.push _⟩
  ·intro b hb;simp at hb;rcases hb with rfl | rfl
   ·exact .inl rfl
   ·obtain⟨o,ho,_⟩:=hl;exact .inr ⟨hn,o,Heap.get?_push_of_some _ ho⟩
  ·intro i v hi;obtain⟨x,h1,h2⟩:=r.get' (by simpa using hi);exact⟨x,h1,(h2.isold (zAf (zznlr _))).keeps (push _)⟩
 | tup a vs xs' hz hl hn r=>
  cases hx;have hl':s₁.heap.IsTuple a vs.toArray:=hl;refine wpAny_pyIter_tuple hl' ⟨e1.trans (Ext.push _),s₁.heap.objs.size,[s₁.heap.objs.size,a],fun i h=>h.IsTupleIter s₁.heap.objs.size a i∧h.IsTuple a vs.toArray,fun i v=>vs.toArray[i]? = some v,rfl,e1.size,by simp[Heap.size_push],⟨fun A' hA'=>?_,fun i h st=>?_⟩,?_,?_,?_⟩
  ·have hne:a≠s₁.heap.objs.size:=by obtain⟨o,ho,_⟩:=hl;exact Nat.ne_of_lt (Heap.lt_size ho)
   have:=Walks.tuple (prog:=g.prog) (w:=g.w) hA' s₁.heap.objs.size a hne vs.toArray;simpa [r.length] using this
  ·obtain⟨o,ho,hc,hd⟩:=st.1;exact⟨o,_,_,ho,hc,.inr (.inl rfl),hd,by simp⟩
  ·exact⟨⟨_,Heap.get?_push_size _ rfl,rfl,rfl⟩,hl'.at fun o e=>Heap.get?_push_of_some _ e⟩
  ·intro b hb;simp at hb;rcases hb with rfl | rfl
   ·exact .inl rfl
   ·obtain⟨o,ho,_⟩:=hl;exact .inr ⟨hn,o,Heap.get?_push_of_some _ ho⟩
  ·intro i v hi;obtain⟨x,h1,h2⟩:=r.get' (by simpa using hi);exact⟨x,h1,(h2.isold (zAf (zznlr _))).keeps (push _)⟩
 | str l t hc hz=>
  cases hx;have read:∀ {h:Heap} i v,SignAt (ms l) i v→∃ x,(l.map fun c=>V.str [c])[i]? = some x∧R ids h (fun b=>Wt g Wo env gh η b∨b=s₁.heap.objs.size) v x:=by
   rintro h i v ⟨c,u,hi,rfl⟩
   have hi':l[i]? = some c:=by simpa using hi
   refine⟨.str [c],by simp[hi'],.str [c] u (fun d hd=>?_) (by rw[sizeLine_eq];simp)⟩;simp at hd;subst hd;exact hc d (List.mem_of_getElem? hi')
  cases ha:(ms l).cps.all (·<128)
  ·refine wpAny_pyIter_wide ha ⟨e1.trans (Ext.push _),s₁.heap.objs.size,[s₁.heap.objs.size],fun i h=>h.IsStrIter s₁.heap.objs.size "str_iterator" (ms l) t i,SignAt (ms l),rfl,e1.size,by simp[Heap.size_push],⟨fun A' hA'=>?_,fun i h st=>?_⟩,?_,?_,read⟩
   ·have:=Walks.strWide (prog:=g.prog) (w:=g.w) hA' s₁.heap.objs.size (ms l) t;simpa using this
   ·obtain⟨o,ho,hc,hd⟩:=st;exact⟨o,_,_,ho,hc,.inr (.inr (.inr (.inr rfl))),hd,by simp⟩
   ·exact⟨_,Heap.get?_push_size _ rfl,rfl,rfl⟩
   ·intro b hb;simp at hb;exact .inl hb
  ·refine wpAny_pyIter_ascii ha ⟨e1.trans (Ext.push _),s₁.heap.objs.size,[s₁.heap.objs.size],fun i h=>h.IsStrIter s₁.heap.objs.size "str_ascii_iterator" (ms l) t i,SignAt (ms l),rfl,e1.size,by simp[Heap.size_push],⟨fun A' hA'=>?_,fun i h st=>?_⟩,?_,?_,read⟩
   ·have:=Walks.strAscii (prog:=g.prog) (w:=g.w) hA' s₁.heap.objs.size (ms l) t;simpa using this
   ·obtain⟨o,ho,hc,hd⟩:=st;exact⟨o,_,_,ho,hc,.inr (.inr (.inr (.inl rfl))),hd,by simp⟩
   ·exact⟨_,Heap.get?_push_size _ rfl,rfl,rfl⟩
   ·intro b hb;simp at hb;exact .inl hb
 | _=>exact noneE hx
noncomputable def zBk (a b c:Int):Nat:=(Builtin.Range.rangeSize a b c).toNat
noncomputable def zBO (a b c:Int):List V:=(List.range (zBk a b c)).map fun (i:Nat)=>V.int (a+i*c)
noncomputable def zBd (x y z:V):Option (List V):=(asInt x).bind fun a=>(asInt y).bind fun b=>(asInt z).bind fun c=>if c≠0∧-1000≤c∧c≤1000∧-(2^60)≤a∧a≤2^60∧-(2^60)≤b∧b≤2^60 then some (zBO a b c) else none
set_option tactic.hygienic true in
theorem zDr {a b c:Int}(ha:-(2^60)≤a∧a≤2^60)(hb:-(2^60)≤b∧b≤2^60):0≤Builtin.Range.rangeSize a b c∧Builtin.Range.rangeSize a b c<2^62:=by
 unfold Builtin.Range.rangeSize;split
 ·split
  ·rename_i hc _;have h1:(b-a-1)/c≤b-a-1:=Int.ediv_le_self c (by (clear ha;exact zn36 (by assumption)));have h2:0≤(b-a-1)/c:=Int.ediv_nonneg (zn36 (by assumption)) (zn103 hc);lia
  ·lia
 ·split
  ·rename_i hc _;by_cases h0:c=0
   ·subst h0;simp
   have h1:(a-b-1) / -c≤a-b-1:=Int.ediv_le_self _ (by (clear ha;exact zn37 (by assumption)));have h2:0≤(a-b-1) / -c:=Int.ediv_nonneg (zn37 (by assumption)) (zn104 hc);lia
  ·lia
theorem zGQ {a b c:Int}(hc:-1000≤c∧c≤1000)(ha:-(2^60)≤a∧a≤2^60)(hb:-(2^60)≤b∧b≤2^60):Builtin.Range.small a b c=true:=by
 have h:=zDr (c:=c) ha hb;unfold Builtin.Range.small Builtin.Range.rangeFitsLong;simp only[Bool.and_eq_true,Bool.or_eq_true,decide_eq_true_eq,beq_iff_eq];refine⟨⟨⟨⟨by lia,by lia⟩,by lia⟩,by lia⟩,.inr ?_⟩;split<;>simp only[Bool.and_eq_true,decide_eq_true_eq]<;>lia
theorem zCd {x y z:V}{l}(h:zBd x y z=some l):∃ a b c,x=.int a∧y=.int b∧z=.int c∧c≠0∧(-1000≤c∧c≤1000)∧(-(2^60)≤a∧a≤2^60)∧(-(2^60)≤b∧b≤2^60)∧l=zBO a b c:=by
 refine zbd h fun a ha h=>?_;refine zbd h fun b hb h=>?_;refine zbd h fun c hc h=>?_;refine ze02 (zAl h) fun q h=>?_;exact⟨a,b,c,zAS ha,zAS hb,zAS hc,q.1,⟨q.2.1,q.2.2.1⟩,⟨q.2.2.2.1,q.2.2.2.2.1⟩,q.2.2.2.2.2,(zzosi h).symm⟩
theorem zC8 {A:Around}{ids:List Addr}{W:Addr→Prop}{s s₁:Shared}{r:Addr}{a b c:Int}{t u v:Tok}(hr:IsRange s₁.heap r a b c t u v)(e1:Ext g s s₁)(hc:-1000≤c∧c≤1000)(ha:-(2^60)≤a∧a≤2^60)(hb:-(2^60)≤b∧b≤2^60):
  wpAny (model g.prog g.w) A (pyIter (.ref r)) (fun it s₂=>Ext g s s₂∧∃ I fp St P,it=.ref I∧s.heap.objs.size≤I∧I<s₂.heap.objs.size∧Wlk g I fp (zBO a b c).length P St∧St 0 s₂.heap∧
   (∀ b∈fp,b=I∨(¬W b∧∃ o,s₂.heap.get? b=some o))∧∀ i v,P i v→∃ x,(zBO a b c)[i]? = some x∧R ids s₂.heap (fun b=>W b∨b=I) v x) Fl s₁:=by
 have hsz:=zDr (a:=a) (b:=b) (c:=c) ha hb;have hn:((zBk a b c:Nat):Int)=Builtin.Range.rangeSize a b c:=by unfold zBk;exact zn105 hsz
 refine wpAny_pyIter_range hr (zGQ hc ha hb) ⟨e1.trans (Ext.push _),s₁.heap.objs.size,[s₁.heap.objs.size],fun i h=>IsRangeIter h s₁.heap.objs.size (a+(i:Nat)*c) ((zBk a b c:Int)-(i:Nat)) c∧i≤zBk a b c,
  fun i v=>i<zBk a b c∧∃ t,v=.int (a+i*c) t,rfl,e1.size,by simp[Heap.size_push],⟨fun A' hA'=>?_,fun i h st=>?_⟩,?_,?_,?_⟩
 ·have W:=Walks.range (prog:=g.prog) (w:=g.w) hA' s₁.heap.objs.size a c (zBk a b c);have hl:(zBO a b c).length=zBk a b c:=by simp[zBO]
  rw[hl];exact
   {sub:=W.sub
    frame:=fun i h h' st hk=>⟨W.frame i h h' st.1 hk,st.2⟩
    item:=fun i s Q E hi st hQ=>W.item i s Q E hi st.1 fun v h' tk hp hst hk=>hQ v h' tk ⟨hi,hp⟩ ⟨hst,hi⟩ hk
    done:=fun s Q E st hQ=>W.done s Q E st.1 hQ
    self:=fun i s Q E st hQ=>W.self i s Q E st.1 hQ}
 ·exact⟨_,_,_,st.1,rfl,.inr (.inr (.inl rfl)),rfl,by simp[rawInt]⟩
 ·refine⟨?_,Nat.zero_le _⟩;have:=Heap.get?_push_size s₁.heap (o:={cls:=.type "range_iterator",data:=.fields #[rawInt a,rawInt (Builtin.Range.rangeSize a b c),rawInt c]}) rfl;simpa [IsRangeIter,hn] using this
 ·intro b hb;simp at hb;exact .inl hb
 ·rintro i v ⟨hi,t,rfl⟩
  exact⟨.int (a+i*c),by simp[zBO,hi],.int _ _⟩
noncomputable def r1V (f:List Slot→Option V):List Slot→Option (List V):=fun η=>(f η).bind fun x=>zBd (.int 0) x (.int 1)
noncomputable def r2V (f h:List Slot→Option V):List Slot→Option (List V):=fun η=>(f η).bind fun x=>(h η).bind fun y=>zBd x y (.int 1)
noncomputable def r3V (f h k:List Slot→Option V):List Slot→Option (List V):=fun η=>(f η).bind fun x=>(h η).bind fun y=>(k η).bind fun z=>zBd x y z
variable {np pos:Pos} {e e2 e3:Expr} {f h k:List Slot→Option V}
theorem zPK (B:Bs g)(hk:zAj fs.scope "range"=some .globalImplicit)(he:SimC g j fs e f)(hn:notStar e=true):Src g j fs (.Call (.Name "range" np) [e] [] pos) (r1V f):=by
 intro A ids Wo env gh η kp s xs hA hE hR hx;refine zbd hx fun x hf hx=>?_;refine ze38 (zCd hx) fun a b c q1 z6 q3 _ hc ha hb z0=>?_;subst z6;subst z0;cases q1;cases q3;refine wpAny_Call_ofName (wpAny_Name (zAH B.ok hE hR hk B.range.1 B.range.2 ?_) (by decide));refine zAA (by intro a h;cases h) hn zAD ?_;rw[zAa hn];refine Calls.spliced_cons (zzwqm (he A ids Wo env gh η kp s _ hA hE hR hf) (fun v' s₁ q=>?_) fun _x _x h=>h);refine ze02 q fun e1 r1=>?_;clear q;refine Calls.spliced_nil ?_;refine ze11 r1.int fun t z1=>?_;subst z1;exact call_range_1 (zC8 (t:=s₁.toks) (u:=t) (v:=s₁.toks+1) (Heap.get?_push_size _ rfl) (e1.trans (Ext.of_heap (fun _x _x e=>Heap.get?_push_of_some _ e) (by simp[Heap.size_push]))) hc ha hb)
theorem zPJ (B:Bs g)(hk:zAj fs.scope "range"=some .globalImplicit)(he:SimC g j fs e f)(he2:SimC g j fs e2 h)(hn:notStar e=true)(hn2:notStar e2=true):
  Src g j fs (.Call (.Name "range" np) [e,e2] [] pos) (r2V f h):=by
 intro A ids Wo env gh η kp s xs hA hE hR hx;refine zbd hx fun x hf hx=>?_;refine zbd hx fun y hh hx=>?_;refine ze38 (zCd hx) fun a b c z2 z3 q3 _ hc ha hb z4=>?_;subst z2;subst z3;subst z4;cases q3;refine wpAny_Call_ofName (wpAny_Name (zAH B.ok hE hR hk B.range.1 B.range.2 ?_) (by decide));refine zAA (by intro a h;cases h) hn (zAW hn2 zAD) ?_;rw[zAa hn,zAa hn2];refine Calls.spliced_cons (zzwqm (he A ids Wo env gh η kp s _ hA hE hR hf) (fun v' s₁ q=>?_) fun _x _x h=>h);refine ze02 q fun e1 r1=>?_;clear q;refine Calls.spliced_cons (zzwqm (he2 A ids Wo env gh η kp s₁ _ hA hE (hR.ext e1) hh) (fun v2 s₂ q=>?_) fun _x _x h=>h);refine ze02 q fun e2 r2=>?_;clear q;refine Calls.spliced_nil ?_;refine ze11 r1.int fun t z5=>?_;subst z5;refine ze11 r2.int fun u z6=>?_;subst z6;exact call_range_2 (zC8 (t:=t) (u:=u) (v:=s₂.toks) (Heap.get?_push_size _ rfl) ((e1.trans e2).trans (Ext.of_heap (fun _x _x e=>Heap.get?_push_of_some _ e) (by simp[Heap.size_push]))) hc ha hb)
theorem zPI (B:Bs g)(hk:zAj fs.scope "range"=some .globalImplicit)(he:SimC g j fs e f)(he2:SimC g j fs e2 h)(he3:SimC g j fs e3 k)(hn:notStar e=true)(hn2:notStar e2=true)(hn3:notStar e3=true):
  Src g j fs (.Call (.Name "range" np) [e,e2,e3] [] pos) (r3V f h k):=by
 intro A ids Wo env gh η kp s xs hA hE hR hx;refine zbd hx fun x hf hx=>?_;refine zbd hx fun y hh hx=>?_;refine zbd hx fun z hk3 hx=>?_;refine ze38 (zCd hx) fun a b c z0 z1 z2 hc0 hc ha hb z3=>?_;subst z0;subst z1;subst z2;subst z3;refine wpAny_Call_ofName (wpAny_Name (zAH B.ok hE hR hk B.range.1 B.range.2 ?_) (by decide));refine zAA (by intro a h;cases h) hn (zAW hn2 (zAW hn3 zAD)) ?_;rw[zAa hn,zAa hn2,zAa hn3];refine Calls.spliced_cons (zzwqm (he A ids Wo env gh η kp s _ hA hE hR hf) (fun v' s₁ q=>?_) fun _x _x h=>h);refine ze02 q fun e1 r1=>?_;clear q;refine Calls.spliced_cons (zzwqm (he2 A ids Wo env gh η kp s₁ _ hA hE (hR.ext e1) hh) (fun v2 s₂ q=>?_) fun _x _x h=>h);refine ze02 q fun e2 r2=>?_;clear q;refine Calls.spliced_cons (zzwqm (he3 A ids Wo env gh η kp s₂ _ hA hE (hR.ext (e1.trans e2)) hk3) (fun v3 s₃ q=>?_) fun _x _x h=>h);refine ze02 q fun e3 r3=>?_;clear q;refine Calls.spliced_nil ?_;refine ze11 r1.int fun t z4=>?_;subst z4;refine ze11 r2.int fun u z5=>?_;subst z5;refine ze11 r3.int fun v z6=>?_;subst z6;exact call_range_3 hc0 (zC8 (t:=t) (u:=u) (v:=v) (Heap.get?_push_size _ rfl) (((e1.trans e2).trans e3).trans (Ext.of_heap (fun _x _x e=>Heap.get?_push_of_some _ e) (by simp[Heap.size_push]))) hc ha hb)
  (.inl (PyProof.noPylong_small (by lia)))
end
section
variable {g:GC} {j:Nat} {fs:FS}
noncomputable def SimTg (g:GC)(j:Nat)(fs:FS)(target:Expr)(tg:V→List Slot→Option (List Slot)):Prop:=
 ∀ (A:Around) (ids:List Addr) (Wo:Addr→Prop) (env:Env) (gh:Gh) (η:List Slot) (kp:Addr→Option Obj) (s:Shared) (v:Value) (x:V) (η':List Slot),
  AOk j A→EnvOk fs env→Rel g ids Wo env fs.vm gh η kp s→R ids s.heap (Wt g Wo env gh η) v x→tg x η=some η'→
  wpAny (model g.prog g.w) A (assign target env v) (fun _ s'=>∃ gh',Rel g ids Wo env fs.vm gh' η' kp s') Fl s
noncomputable def tgN (i:Nat):V→List Slot→Option (List Slot):=fun x η=>some (setS η i (.val x))
theorem SimTg.name {x:Str}{i:Nat}{p}(hv:fs.vm x=some i):SimTg g j fs (.Name x p) (tgN i):=by
 intro A ids Wo env gh η kp s v y η' hA hE hR r hx;cases hx;refine wpAny_assign_Name (zzwqm (zBt hE hR (Ext.refl _) hv r) (fun _x s₂ q=>?_) fun _x _x h=>h);refine ze12 q fun gh' h _=>?_;clear q;exact⟨gh',h⟩
inductive namesOk (fs:FS):List Expr→List Nat→Prop
 | nil:namesOk fs [] []
 | cons {x:Str} {p:Pos} {i:Nat} {es:List Expr} {is:List Nat}:fs.vm x=some i→namesOk fs es is→namesOk fs (.Name x p::es) (i::is)
noncomputable def tgL:List Nat→List V→List Slot→Option (List Slot)
 | [],[],η=>some η
 | i::is,x::xs,η=>tgL is xs (setS η i (.val x))
 | _,_,_=>none
theorem zC3 {env:Env}{es is}(h:namesOk fs es is):(assignEach es env).findIdx? (·.1)=none∧(assignEach es env).length=is.length∧(assignEach es env).map (·.2)=es.map fun e=>assign e env:=by
 induction h with
 | nil=>exact⟨rfl,rfl,rfl⟩
 | @cons x p i es is hv _ ih=>
  refine⟨?_,?_,?_⟩
  ·show List.findIdx? (·.1) ((false,assign (.Name x p) env)::assignEach es env)=none;rw[List.findIdx?_cons,ih.1];rfl
  ·show (assignEach es env).length+1=is.length+1;rw[ih.2.1]
  ·show assign (.Name x p) env::(assignEach es env).map (·.2)=_;rw[ih.2.2];rfl
theorem zIT {is xs η η'}(h:tgL is xs η=some η'):is.length=xs.length:=by
 induction is generalizing xs η with
 | nil=>cases xs with
  | nil=>rfl
  | cons _ _=>exact noneE h
 | cons i is ih=>cases xs with
  | nil=>exact noneE h
  | cons e els=>exact congrArg Nat.succ (ih h)
theorem zGz {A:Around}{ids:List Addr}{Wo:Addr→Prop}{env:Env}{kp:Addr→Option Obj}(hE:EnvOk fs env)(es:List Expr):∀ (is:List Nat) (vs:List Value) (xs:List V) (gh:Gh) (η η':List Slot) (s:Shared),
  namesOk fs es is→Rel g ids Wo env fs.vm gh η kp s→RL ids s.heap (Wt g Wo env gh η) vs xs→tgL is xs η=some η'→
  wpAny (model g.prog g.w) A (assignInOrder (es.map fun e=>assign e env) vs) (fun _x s'=>∃ gh',Rel g ids Wo env fs.vm gh' η' kp s') Fl s:=by
 intro is vs xs gh η η' s hn
 induction hn generalizing vs xs gh η s with
 | nil=>
  intro hR r hx;cases r with
  | nil=>cases hx;exact assignInOrder_nil ⟨gh,hR⟩
  | cons _ _=>exact noneE hx
 | cons hv hn ih=>
  intro hR r hx;cases r with
  | nil=>exact noneE hx
  | cons r1 r2=>
   refine assignInOrder_cons (wpAny_assign_Name (zzwqm (zBt hE hR.all (Ext.refl _) hv r1) (fun _x s₂ q=>?_) fun _x _x h=>h));refine ze12 q fun gh' h _=>?_;clear q;have k:=hR.kept h fun _x _x e=>e;exact ih _ _ gh' _ s₂ (h.back fun b o e=>hR.kpOf e) (r2.mono (fun _x _x e=>e) k.1 k.2) hx
theorem zB4 {s:Shared}{h':Heap}(he:Heap.ExtBut s.heap.objs.size s.heap h')(hz:s.heap.objs.size≤h'.objs.size):Ext g s {s with heap:=h'}:=
 Ext.of_heap (k:=s.toks) (fun b o e=>he b o (Nat.ne_of_lt (Heap.lt_size e)) e) hz (zznlr _)
noncomputable def tgT (is:List Nat):V→List Slot→Option (List Slot):=fun x η=>(asTup x).bind fun xs=>tgL is xs η
theorem SimTg.tuple {es:List Expr}{is:List Nat}{c p}(hn:namesOk fs es is):SimTg g j fs (.Tuple es c p) (tgT is):=by
 intro A ids Wo env gh η kp s v y η' hA hE hR r hx;refine zbd hx fun xs hxs hx2=>?_;cases zGA hxs
 ·refine ze25 ((RC.ofR (g:=g) r).tup) fun a vs z0 ht _ r1 _=>?_;subst z0;have q:=zC3 (env:=env) hn;rw[PyProof.Rows.assign_Tuple];refine zzwqb (wpAny_standAt ?_);unfold unpack;rw[q.1,q.2.1,zIT hx2,←r1.length,q.2.2];refine zzwqb (wpAny_holding (zAg (zznlr _) (zznlr _) (unpackItems_tuple (items:=vs.toArray) hA.1 ht fun h' he hz hk=>?_)));have e1:Ext g s {s with heap:=h'}:=zB4 he hz;exact zGz hE es is vs xs gh η η' _ hn (hR.ext e1) (r1.keeps (e1.hext Wt_P)) hx2
noncomputable def forL (tg:V→List Slot→Option (List Slot))(F:List Slot→Option (Out×List Slot)):List V→List Slot→Option (Out×List Slot)
 | [],η=>some (.next,η)
 | x::xs,η=>(tg x η).bind fun η1=>(F η1).bind fun r=>match r.1 with
   | .next | .cont=>forL tg F xs r.2
   | .brk=>some (.next,r.2)
   | .ret v=>some (.ret v,r.2)
theorem zHg {A:Around}{s:Shared}{prog:Program}{w:World}{R:Result→Shared→Prop}{target it body env}(I:Nat→Shared→Prop)
  (turn:∀ n s,I n s→wpAny (model prog w) A (pyNext it) (fun r s₁=>match r with
   | none=>R (.ok .next) s₁
   | some v=>wpAny (model prog w) A (letOwnedTupleGo target it v) (fun _x s₁'=>wpAny (model prog w) A (assign target env v) (fun _x s₂=>wpAny (model prog w) A (execs body env) (fun f s₃=>match f with
     | .next | .cont=>∃ m,m<n∧I m s₃
     | .brk=>R (.ok .next) s₃
     | .ret v=>R (.ok (.ret v)) s₃) Fl s₂) Fl s₁') Fl s₁) Fl s)
  (n:Nat) (h:I n s):codeAny (model prog w) A (.forLoop target it body [] env) R s:=by
 refine codeAny_loop' rfl I (fun n s hI=>?_) n h;show wpAny _ _ ((forTurn target it body [] env).onRaise (fun x=>do noteFrame x env;theTreesLotGoes x)) _ _ s;refine wpAny_noted ?_;simp only[forTurn];refine zzwqb (wpAny_standAt (zzwqb (wpAny_onRaise (zzwqm (turn n s hI) (fun r s₁ h₁=>?_) fun _x _x h'=>h'.elim))));cases r with
 | none=>exact zzwqp (.inr ⟨rfl,codeAny_block (wpAny_execs_nil h₁)⟩)
 | some v=>
  refine zzwqb (zzwqm h₁ (fun _x s₁' h₁'=>?_) fun _x _x h'=>h'.elim);refine zzwqb (zzwqm h₁' (fun _x s₂ h₂=>zzwqb (zzwqm h₂ (fun f s₃ h₃=>?_) fun _x _x h'=>h'.elim)) fun _x _x h'=>h'.elim);cases f with
  | next=>exact zzwqp (.inl ⟨rfl,h₃⟩)
  | cont=>exact zzwqp (.inl ⟨rfl,h₃⟩)
  | brk=>exact zzwqp h₃
  | ret v=>exact zzwqp h₃
theorem Rel.turn {A:Around}{E:Value→Shared→Prop}{ids:List Addr}{Wo:Addr→Prop}{env:Env}{gh η kp}{s:Shared}{I:Addr}{fp n P St}{i:Nat}{vm}(hh:A.handled=none)(W:Wlk g I fp n P St)(hR:Rel g ids Wo env vm gh η kp s)
  (hI:Wo I∧¬Own env gh η I∧I≠g.P∧kp I=none∧g.h0.get? I=none) (hst:St i s.heap) {Q:Option Value→Shared→Prop}
  (h1:i<n→∀ v s',P i v→St (i+1) s'.heap→Rel g ids Wo env vm gh η kp s'→(∀ b o,b≠I→s.heap.get? b=some o→s'.heap.get? b=some o)→s.heap.objs.size≤s'.heap.objs.size→Q (some v) s')
  (h2:i=n→∀ s',Rel g ids Wo env vm gh η kp s'→(∀ b o,b≠I→s.heap.get? b=some o→s'.heap.get? b=some o)→s.heap.objs.size≤s'.heap.objs.size→Q none s') (hle:i≤n):wpAny (model g.prog g.w) A (pyNext (.ref I)) Q E s:=by
 have hit:=(W.it _ _ hst)
 have tab:∀ s':Shared,(∀ b o,b≠I→s.heap.get? b=some o→s'.heap.get? b=some o)→TabOk g s'.heap:=fun s' hk=>by
  refine ze13 hR.tab fun ps hp ht hc=>?_;refine⟨ps,hk _ _ (Ne.symm hI.2.2.1) hp,ht,fun pos cv e=>?_⟩;refine ze24 (hc pos cv e) fun c q z1 e2 e3 e4=>?_;subst z1;refine⟨c,q,rfl,e2,e3,?_⟩;have hne:c≠I:=fun h=>hit.code (q:=q) (h▸e4);refine ze43 e4 fun c' o vs t e5 ho r=>?_;clear e4;cases e5;exact⟨c,o,vs,t,rfl,hk _ _ hne ho,r⟩
 have rel:∀ s':Shared,(∀ b o,b≠I→s.heap.get? b=some o→s'.heap.get? b=some o)→s.heap.objs.size≤s'.heap.objs.size→s'.gens=s.gens→s'.os=s.os→s.toks≤s'.toks→Rel g ids Wo env vm gh η kp s':=fun s' hk hz hg ho ht=>
  hR.touch (fun b=>b=I) (fun b hb=>by subst hb;exact hI) (fun b o hb e=>hk b o hb e) hz (fun x=>hg▸x) ho ht (tab s' hk)
 rcases Nat.lt_or_ge i n with hi | hi
 ·refine zAg (zznlr _) (zznlr _) ((W.walks A hh).item i s _ E hi hst fun v h' tk hp hst' hk hz ht=>?_);exact h1 hi v _ hp hst' (rel _ (fun b o hb e=>hk b o (by simpa using hb) e) hz rfl rfl ht) (fun b o hb e=>hk b o (by simpa using hb) e) hz
 ·have:i=n:=Nat.le_antisymm hle hi;subst this;refine zAg (zznlr _) (zznlr _) ((W.walks A hh).done s _ E hst fun h' tk hk hz ht=>?_);exact h2 rfl _ (rel _ (fun b o hb e=>hk b o (by simpa using hb) e) hz rfl rfl ht) (fun b o hb e=>hk b o (by simpa using hb) e) hz
structure zOA (g:GC)(ids:List Addr)(Wo:Addr→Prop)(env:Env)(vm:Str→Option Nat)(kp:Addr→Option Obj)(tg:V→List Slot→Option (List Slot))(F:List Slot→Option (Out×List Slot))(xs:List V)(r:Option (Out×List Slot))
  (fp:List Addr) (P:Nat→Value→Prop) (St:Nat→Heap→Prop) (I:Addr) (z:Nat) (k:Nat) (ids':List Addr) (gh':Gh) (η₁:List Slot) (s':Shared):Prop where
 le:k≤xs.length
 ids:∀ (n:Nat) (a:Addr),ids[n]? = some a→ids'[n]? = some a
 rel:Rel g ids' (fun b=>Wo b∨b=I) env vm gh' η₁ kp s'
 st:St k s'.heap
 run:forL tg F (xs.drop k) η₁=r
 size:z≤s'.heap.objs.size
 fp:∀ b∈fp,b=I∨(¬Wt g (fun b=>Wo b∨b=I) env gh' η₁ b∧∃ o,s'.heap.get? b=some o)
 off:¬Own env gh' η₁ I
 items:∀ i v,P i v→∃ x,xs[i]? = some x∧R ids' s'.heap (Wt g (fun b=>Wo b∨b=I) env gh' η₁) v x
noncomputable def ForI (g:GC)(ids:List Addr)(Wo:Addr→Prop)(env:Env)(vm:Str→Option Nat)(kp:Addr→Option Obj)(tg:V→List Slot→Option (List Slot))(F:List Slot→Option (Out×List Slot))(xs:List V)(r:Option (Out×List Slot))
  (fp:List Addr) (P:Nat→Value→Prop) (St:Nat→Heap→Prop) (I:Addr) (z n:Nat) (s':Shared):Prop:=∃ k ids' gh' η₁,n=xs.length+1-k∧zOA g ids Wo env vm kp tg F xs r fp P St I z k ids' gh' η₁ s'
theorem zQo {iter target:Expr}{body:List Stmt}{pos fi tg F}(hs:Src g j fs iter fi)(ht:SimTg g j fs target tg)(hb:SimS g j fs body F)(hf:∀ env x,foldedSetIterable iter env x=pure x):
  Sim1 g j fs (.For target iter body [] pos) (fun η=>(fi η).bind fun xs=>forL tg F xs η):=by
 intro A ids Wo env gh η kp s o η' hA hE hR hx;refine zbd hx fun xs hfi hx=>?_;refine wpAny_For (zBV (zzwqm (hs A ids Wo env gh η kp s xs hA hE hR hfi) (fun v s₁ h₁=>zBV (zzwqm h₁ (fun it s₂ h₂=>?_) fun _x _x h=>h)) fun _x _x h=>h)) (hf env);refine ze02 h₂ fun e1 z2=>?_;clear h₂;refine ze47 z2 fun I fp St P z3 hI1 hI2 W hst hfp hP=>?_;clear z2;subst z3;have hR2:Rel g ids (fun b=>Wo b∨b=I) env fs.vm gh η kp s₂:=hR.more e1 (fun b h=>.inl h) fun b hb=>hb.elim .inl fun h=>.inr (h▸⟨hI1,hI2⟩);have hIn:∀ o,s.heap.get? I≠some o:=zAf hI1;have hI0:kp I=none:=by cases q:kp I with | none=>rfl | some o=>exact absurd (hR.keep I o q) (hIn o)
 have hIh:g.h0.get? I=none:=by cases q:g.h0.get? I with | none=>rfl | some o=>exact absurd (hR.keep0 I o q) (hIn o)
 have hIP:I≠g.P:=fun h=>by obtain⟨ps,hp,_⟩:=hR.tab;exact hIn _ (h▸hp)
 have hIO:¬Own env gh η I:=fun h=>absurd (hR.ownLt h) (Nat.not_lt.mpr hI1)
 refine zHg (ForI g ids Wo env fs.vm kp tg F xs (some (o,η')) fp P St I s.heap.objs.size) ?_ (xs.length+1)
  ⟨0,ids,gh,η,rfl,Nat.zero_le _,fun _x _x e=>e,hR2,hst,hx,e1.size,fun b hb=>?_,hIO,fun i v hp=>?_⟩
 ·rintro n s' ⟨k,ids',gh',η₁,rfl,hV⟩
  obtain⟨hk,hi,hR',hst',hx',hz,hfp',hIO',hP'⟩:=hV;refine hR'.turn (i:=k) hA.1 W ⟨.inr rfl,hIO',hIP,hI0,hIh⟩ hst' (fun hlt v s₃ hp hst₃ hR₃ hk₃ hz₃=>?_) (fun he s₃ hR₃ _x hz₃=>?_) hk
  ·dsimp only;refine(W.it _ _ hst₃).go ?_;refine ze12 (hP' k v hp) fun x hxi r=>?_;have hd:xs.drop k=x::xs.drop (k+1):=by
    rw[List.drop_eq_getElem_cons hlt];congr 1;have:=zzlge hlt;rw[hxi] at this;exact(zzosi this).symm
   rw[hd] at hx';refine zbd hx' fun η1 h1 hx'=>?_;obtain⟨⟨o2,η2⟩,h2,hx'⟩:=Option.bind_eq_some_iff.mp hx';have h3:HExt (Wt g (fun b=>Wo b∨b=I) env gh' η₁) s'.heap s₃.heap:=fun b o hb e=>hk₃ b o (fun h=>hb (.inl (.inr h))) e
   have fp3:∀ b∈fp,b=I∨(¬Wt g (fun b=>Wo b∨b=I) env gh' η₁ b∧∃ o,s₃.heap.get? b=some o):=fun b hb=>by
    rcases hfp' b hb with h | ⟨h,o,ho⟩
    ·exact .inl h
    ·exact .inr ⟨h,o,h3 b o h ho⟩
   refine zAg (n:=s₃.heap.objs.size) (zznlr _) (zznlr _) (zzwqm (ht A ids' _ env gh' η₁ _ s₃ v x η1 hA hE hR₃.all (r.keeps h3) h1) (fun _ s₄ ⟨gh₄,hR₄⟩ hz4 _=>?_) fun _x _x h=>h);have K4:=hR₃.kept hR₄ fun _x _x e=>e;have kI:∀ {gh η} {h:Heap} {o},¬Own env gh η I→h.get? I=some o→kpAll g env gh η h I=some o:=fun a b=>zAz.mpr ⟨⟨a,hIP⟩,b⟩
   have st4:St (k+1) s₄.heap:=(W.walks A hA.1).frame _ _ _ hst₃ fun b hb o e=>by
    refine hR₄.keep b o (zAz.mpr ⟨?_,e⟩);rcases fp3 b hb with rfl | ⟨h,_⟩
    ·exact⟨hIO',hIP⟩
    ·exact⟨fun q=>h (.inr (.inr q)),fun q=>h (.inr (.inl q))⟩
   refine ze32 (W.it _ _ hst₃) fun oI _ _ hoI _=>?_;have hIO4:¬Own env gh₄ η1 I:=fun h=>by
    have:=(hR₄.off I h).1;rw[kI hIO' hoI] at this;cases this
   have fp4:∀ b∈fp,b=I∨(¬Wt g (fun b=>Wo b∨b=I) env gh₄ η1 b∧∃ o,s₄.heap.get? b=some o):=fun b hb=>by
    rcases fp3 b hb with h | ⟨h,o,ho⟩
    ·exact .inl h
    ·exact .inr ⟨K4.2 b o ho h,o,K4.1 b o h ho⟩
   have hR₄':Rel g ids' (fun b=>Wo b∨b=I) env fs.vm gh₄ η1 kp s₄:=hR₄.back fun b o e=>hR₃.kpOf e;refine zzwqm (hb A ids' _ env gh₄ η1 _ s₄ o2 η2 hA hE hR₄'.all h2) (fun fl s₅ hp5=>?_) fun _x _x h=>h;obtain⟨ids5,gh5,hi5,hR5,hf5,hz5⟩:=hp5;have K5:=hR₄'.kept hR5 fun _x _x e=>e;refine ze32 (W.it _ _ st4) fun oI4 _ _ hoI4 _=>?_;have st5:St (k+1) s₅.heap:=(W.walks A hA.1).frame _ _ _ st4 fun b hb o e=>by
    refine hR5.keep b o (zAz.mpr ⟨?_,e⟩);rcases fp4 b hb with rfl | ⟨h,_⟩
    ·exact⟨hIO4,hIP⟩
    ·exact⟨fun q=>h (.inr (.inr q)),fun q=>h (.inr (.inl q))⟩
   have hIO5:¬Own env gh5 η2 I:=fun h=>by
    have:=(hR5.off I h).1;rw[kI hIO4 hoI4] at this;cases this
   have hR5':Rel g ids5 (fun b=>Wo b∨b=I) env fs.vm gh5 η2 kp s₅:=hR5.back fun b o e=>hR₄'.kpOf e;have hi5':∀ (n:Nat) (a:Addr),ids[n]? = some a→ids5[n]? = some a:=fun n a e=>hi5 n a (hi n a e)
   have hz5':s.heap.objs.size≤s₅.heap.objs.size:=by
    exact zznlt (zznlt hz hz₃) (zznlt hz4 hz5)
   have next:forL tg F (xs.drop (k+1)) η2=some (o,η')→∃ m,m<xs.length+1-k∧ForI g ids Wo env fs.vm kp tg F xs (some (o,η')) fp P St I s.heap.objs.size m s₅:=fun hn=>
    ⟨xs.length+1-(k+1),by (clear hI1 hz hz₃ hz4 hz5 hz5';exact zn17 hlt),k+1,ids5,gh5,η2,rfl,hlt,hi5',hR5',st5,hn,hz5',fun b hb=>by
     rcases fp4 b hb with h | ⟨h,o,ho⟩
     ·exact .inl h
     ·exact .inr ⟨K5.2 b o ho h,o,K5.1 b o h ho⟩,hIO5,fun i v hp=>by
     refine ze12 (hP' i v hp) fun x a r=>?_;exact⟨x,a,((r.keeps h3).mono (fun _x _x e=>e) K4.1 K4.2).mono hi5 K5.1 K5.2⟩⟩
   cases o2<;>cases fl<;>first | exact hf5.elim | skip
   ·exact next hx'
   ·cases hx';exact⟨ids5,gh5,hi5',hR5'.less fun b h=>.inl h,trivial,hz5'⟩
   ·exact next hx'
   ·cases hx';exact⟨ids5,gh5,hi5',hR5'.less fun b h=>.inl h,hf5.sub fun b h=>h.elim (fun h=>.inl (.inl h)) .inr,hz5'⟩
  ·dsimp only;subst he;simp[forL] at hx';refine ze02 hx' fun z4 z5=>?_;clear hx';subst z4;subst z5;exact⟨ids',gh',hi,hR₃.less fun b h=>.inl h,trivial,Nat.le_trans hz hz₃⟩
 ·rcases hfp b hb with h | ⟨h,o,ho⟩
  ·exact .inl h
  ·by_cases hbI:b=I
   ·exact .inl hbI
   ·refine .inr ⟨fun q=>?_,o,ho⟩;rcases q with (q | q) | q
    ·exact h (.inl q)
    ·exact hbI q
    ·exact h (.inr q)
 ·refine ze12 (hP i v hp) fun x a r=>?_;refine⟨x,a,r.sub fun b h=>?_⟩;rcases h with (q | q) | q
  ·exact .inl (.inl q)
  ·exact .inr q
  ·exact .inl (.inr q)
end
noncomputable def zHD (sc out:Scope):Scope:=
 {sc with names:=sc.names.map fun (n,k)=>if (k==.free&&out.kind==.function&&out.names.lookup n==some .cell) then (n,.cell) else (n,k)}
theorem zDq {out:Scope}:∀ {names:List (Str×NameKind)} {x:Str},names.lookup x=some .free→
  (names.map fun (n,k)=>if (k==NameKind.free&&out.kind==.function&&out.names.lookup n==some .cell) then (n,NameKind.cell) else (n,k)).lookup x=some .cell∨
  (names.map fun (n,k)=>if (k==NameKind.free&&out.kind==.function&&out.names.lookup n==some .cell) then (n,NameKind.cell) else (n,k)).lookup x=some .free
 | [],_,h=>by simp at h
 | (n,k)::r,x,h=>by
  have ih:=@zDq out r x;cases hx:x==n with
  | true=>
   simp only[List.lookup_cons,hx] at h;cases h;simp only[List.map_cons];split<;>simp[List.lookup_cons,hx]
  | false=>
   simp only[List.lookup_cons,hx] at h;simp only[List.map_cons];split<;>(simp only[List.lookup_cons,hx];exact ih h)
noncomputable def clOf (cells:List (Str×Addr)):List (Str×NameKind)→List (Str×Addr)→List (Str×Addr)
 | [],cs=>cs
 | (n,k)::r,cs=>if k==.free then match cells.lookup n with
   | some a=>clOf cells r ((n,a)::cs)
   | none=>clOf cells r cs
  else clOf cells r cs
set_option tactic.hygienic true in
theorem zDh {cells:List (Str×Addr)}:∀ {names cs x c},(clOf cells names cs).lookup x=some c→cs.lookup x=some c∨cells.lookup x=some c
 | [],cs,x,c,h=>.inl h
 | (n,k)::r,cs,x,c,h=>by
  unfold clOf at h;split at h
  ·split at h
   ·rename_i a ha;rcases zDh h with h | h
    ·simp only[List.lookup_cons] at h;split at h
     ·rename_i hx;cases h;exact .inr (by rw[eq_of_beq hx];exact ha)
     ·exact .inl h
    ·exact .inr h
   ·exact zDh h
  ·exact zDh h
set_option tactic.hygienic true in
theorem zDT {cells:List (Str×Addr)}:∀ {names cs x c},(∀ x c,cs.lookup x=some c→cells.lookup x=some c)→cs.lookup x=some c→(clOf cells names cs).lookup x=some c
 | [],cs,x,c,_,h=>h
 | (n,k)::r,cs,x,c,hc,h=>by
  unfold clOf;split
  ·split
   ·rename_i a ha;refine zDT (fun y d hd=>?_) ?_
    ·simp only[List.lookup_cons] at hd;split at hd
     ·rename_i hy;cases hd;rw[eq_of_beq hy];exact ha
     ·exact hc y d hd
    ·simp only[List.lookup_cons];split
     ·rename_i hx;have:=hc x c h;rw[eq_of_beq hx,ha] at this;rw[this]
     ·exact h
   ·exact zDT hc h
  ·exact zDT hc h
set_option tactic.hygienic true in
theorem zCU {cells:List (Str×Addr)}:∀ {names cs x c},(∀ x c,cs.lookup x=some c→cells.lookup x=some c)→(x,NameKind.free)∈names→cells.lookup x=some c→(clOf cells names cs).lookup x=some c
 | [],cs,x,c,_,hm,h=>by simp at hm
 | (n,k)::r,cs,x,c,hc,hm,h=>by
  unfold clOf;rcases List.mem_cons.mp hm with e | hm
  ·cases e;simp only[beq_self_eq_true,if_true,h];refine zDT (fun y d hd=>?_) (by simp[List.lookup_cons]);simp only[List.lookup_cons] at hd;split at hd
   ·rename_i hy;cases hd;rw[eq_of_beq hy];exact h
   ·exact hc y d hd
  ·split
   ·split
    ·rename_i a ha;refine zCU (fun y d hd=>?_) hm h;simp only[List.lookup_cons] at hd;split at hd
     ·rename_i hy;cases hd;rw[eq_of_beq hy];exact ha
     ·exact hc y d hd
    ·exact zCU hc hm h
   ·exact zCU hc hm h
theorem zFT {sc:Scope}{env:Env}(h:∀ y∈sc.names,y.2=.free→∃ c,env.cells.lookup y.1=some c):closureFor sc env=pure (clOf env.cells sc.names []):=by
 unfold closureFor
 suffices key:∀ (names:List (Str×NameKind)) (cs:List (Str×Addr)),(∀ y∈names,y.2=.free→∃ c,env.cells.lookup y.1=some c)→
   (forIn names cs fun (x:Str×NameKind) (r:List (Str×Addr))=>match x with
    | (name,kind)=>if (kind==.free)=true then do let a ←cellOf env name;pure (ForInStep.yield ((name,a)::r)) else pure (ForInStep.yield r):Sem _)=pure (clOf env.cells names cs) by
  exact(congrArg (· >>= pure) (key sc.names [] h)).trans rfl
 intro names
 induction names with
 | nil=>intro cs _;rfl
 | cons y r ih=>
  intro cs h;obtain⟨n,k⟩:=y;rw[List.forIn_cons];have hr:∀ y∈r,y.2=.free→∃ c,env.cells.lookup y.1=some c:=fun y hy=>h y (zzlmc _ hy);unfold clOf;by_cases hk:(k==NameKind.free)=true
  ·simp only[hk,if_true];refine ze11 (h (n,k) zzlms (eq_of_beq hk)) fun c hc=>?_;have:cellOf env n=pure c:=by unfold cellOf;simp only at hc;rw[hc]
   rw[this,hc];exact ih _ hr
  ·simp only[hk,if_false];exact ih _ hr
section
variable {g:GC} {j:Nat} {fs fsC:FS}
noncomputable def Weak (η1 η:List Slot):Prop:=η1.length=η.length∧∀ k:Nat,η1[k]? = η[k]?∨(η[k]? = some .undef∧∃ v,η1[k]? = some (.val v))
theorem Weak.refl (η:List Slot):Weak η η:=⟨rfl,fun _x=>.inl rfl⟩
set_option tactic.hygienic true in
theorem Weak.set {η1 η:List Slot}{i:Nat}{x:V}(h:Weak η1 η)(hi:η[i]? = some .undef):Weak (setS η1 i (.val x)) η:=by
 have hlt:i<η1.length:=by rw[h.1];exact(List.getElem?_eq_some_iff.mp hi).1
 have hnp:setS η1 i (.val x)=η1.set i (.val x):=by
  unfold setS;split
  ·rename_i l hl;rcases h.2 i with e | ⟨_,v,e⟩
   ·rw[hl,hi] at e;cases e
   ·rw[hl] at e;cases e
  ·rfl
 refine⟨by rw[zD2];exact h.1,fun k=>?_⟩;rw[hnp];by_cases hk:k=i
 ·subst hk;exact .inr ⟨hi,x,by simp[hlt]⟩
 ·rw[List.getElem?_set_ne (Ne.symm hk)];exact h.2 k
theorem Weak.own {env gh}{η1 η:List Slot}(h:Weak η1 η){b:Addr}:Own env gh η b↔Own env gh η1 b:=by
 unfold Own;refine or_congr Iff.rfl (or_congr Iff.rfl ⟨?_,?_⟩)
 ·rintro ⟨i,sl,l,h1,h2,h3⟩
  rcases h.2 i with e | ⟨e,_⟩
  ·exact⟨i,sl,l,e.trans h1,h2,h3⟩
  ·rw[h1] at e;cases e;exact noneE h2
 ·rintro ⟨i,sl,l,h1,h2,h3⟩
  rcases h.2 i with e | ⟨_,v,e⟩
  ·exact⟨i,sl,l,e.symm.trans h1,h2,h3⟩
  ·rw[h1] at e;cases e;exact noneE h2
theorem Weak.wt {Wo env gh}{η1 η:List Slot}(h:Weak η1 η){b:Addr}:Wt g Wo env gh η b↔Wt g Wo env gh η1 b:=or_congr Iff.rfl (or_congr Iff.rfl h.own)
theorem Rel.weak {ids Wo env vm gh kp}{η1 η:List Slot}{s:Shared}(hR:Rel g ids Wo env vm gh η1 kp s)(h:Weak η1 η):Rel g ids Wo env vm gh η kp s:=
 have oi:∀ (i:Nat) (sl:Slot) (l:List V),η[i]? = some sl→sl.owned? = some l→η1[i]? = some sl:=fun i sl l h1 h2=>by
  rcases h.2 i with e | ⟨e,_⟩
  ·exact e.trans h1
  ·rw[h1] at e;cases e;exact noneE h2
 {hR with
  adrL:=fun i sl l h1 h2=>hR.adrL i sl l (oi i sl l h1 h2) h2
  adrC:=fun i sl l h1 h2=>hR.adrC i sl l (oi i sl l h1 h2) h2
  adrA:=fun i sl l k sl' l' h1 h2 h3 h4=>hR.adrA i sl l k sl' l' (oi i sl l h1 h2) h2 (oi k sl' l' h3 h4) h4
  adrWo:=fun i sl l h1 h2=>hR.adrWo i sl l (oi i sl l h1 h2) h2
  off:=fun b hb=>hR.off b (h.own.mp hb)
  var:=fun x i hx=>by
   refine ze02 (hR.var x i hx) fun hr z6=>?_;refine ze12 z6 fun sl h1 h2=>?_;clear z6;refine⟨hr,?_⟩;rcases h.2 i with e | ⟨e,_⟩
   ·refine⟨sl,e.symm.trans h1,?_⟩;have h3:=h2.mono (W':=Wt g Wo env gh η) (fun _x _x _x e=>e) (fun b _x _x hn hb=>hn (h.wt.mp hb)) (fun _x _x _x e=>e);cases sl with
    | app r=>
     refine ze24 h3 fun b l q1 q2 q3 q4=>?_;clear h3;refine⟨b,l,q1,?_,q3,q4⟩;rcases h.2 r with e | ⟨_,v,e⟩
     ·exact e.symm.trans q2
     ·rw[q2] at e;cases e
    | _=>exact h3
   ·exact⟨.undef,e,trivial⟩
  cnt:=fun i n h1=>by
   rcases h.2 i with e | ⟨e,_⟩
   ·exact hR.cnt i n (e.trans h1)
   ·rw[h1] at e;cases e
  wlt:=fun b hb=>hR.wlt b (h.wt.mp hb)
  idoff:=fun n a e hb=>hR.idoff n a e (h.wt.mp hb)}
noncomputable def zBi (g:GC)(j:Nat)(fs:FS)(target:Expr)(tg:V→List Slot→Option (List Slot)):Prop:=
 ∀ (A:Around) (ids:List Addr) (Wo:Addr→Prop) (env:Env) (gh:Gh) (η:List Slot) (kp:Addr→Option Obj) (s:Shared) (v:Value) (x:V) (η':List Slot),
  AOk j A→EnvOk fs env→Rel g ids Wo env fs.vm gh η kp s→R ids s.heap (Wt g Wo env gh η) v x→tg x η=some η'→
  wpAny (model g.prog g.w) A (assign target env v) (fun _ s'=>(∃ gh':Gh,gh'.adr=gh.adr∧Rel g ids Wo env fs.vm gh' η' kp s')∧∀ b o,b≠env.locals→s.heap.get? b=some o→s'.heap.get? b=some o) Fl s
theorem zBi.name {x:Str}{i:Nat}{p}(hv:fs.vm x=some i)(hl:zAj fs.scope x=some .local):zBi g j fs (.Name x p) (tgN i):=by
 intro A ids Wo env gh η kp s v y η' hA hE hR r hx;cases hx;refine wpAny_assign_Name (zzwqm (zBs hE hR (Ext.refl _) hv r) (fun _x s₂ q=>?_) fun _x _x h=>h);refine ze14 q fun gh' ha h _ hk=>?_;clear q;exact⟨⟨gh',ha,h⟩,hk (by unfold Env.kindOf;rw[hE.scope];exact hl)⟩
inductive zBZ (fs:FS):List Expr→Prop
 | nil:zBZ fs []
 | cons {x:Str} {p:Pos} {es:List Expr}:zAj fs.scope x=some .local→zBZ fs es→zBZ fs (.Name x p::es)
theorem zFV {A:Around}{ids:List Addr}{Wo:Addr→Prop}{env:Env}{kp:Addr→Option Obj}(hE:EnvOk fs env)(es:List Expr):∀ (is:List Nat) (vs:List Value) (xs:List V) (gh:Gh) (η η':List Slot) (s:Shared),
  namesOk fs es is→zBZ fs es→Rel g ids Wo env fs.vm gh η kp s→RL ids s.heap (Wt g Wo env gh η) vs xs→tgL is xs η=some η'→
  wpAny (model g.prog g.w) A (assignInOrder (es.map fun e=>assign e env) vs) (fun _x s'=>(∃ gh':Gh,gh'.adr=gh.adr∧Rel g ids Wo env fs.vm gh' η' kp s')∧∀ b o,b≠env.locals→s.heap.get? b=some o→s'.heap.get? b=some o) Fl s:=by
 intro is vs xs gh η η' s hn
 induction hn generalizing vs xs gh η s with
 | nil=>
  intro _ hR r hx;cases r with
  | nil=>cases hx;exact assignInOrder_nil ⟨⟨gh,rfl,hR⟩,fun _x _x _x e=>e⟩
  | cons _ _=>exact noneE hx
 | cons hv hn ih=>
  intro hlo hR r hx;cases hlo with
  | cons hl hlo=>
   cases r with
   | nil=>exact noneE hx
   | cons r1 r2=>
    refine assignInOrder_cons (wpAny_assign_Name (zzwqm (zBs hE hR.all (Ext.refl _) hv r1) (fun _x s₂ q=>?_) fun _x _x h=>h));refine ze14 q fun gh' ha h _ hk=>?_;clear q;have hk':=hk (by unfold Env.kindOf;rw[hE.scope];exact hl);have k:=hR.kept h fun _x _x e=>e;refine zzwqm (ih _ _ gh' _ s₂ hlo (h.back fun b o e=>hR.kpOf e) (r2.mono (fun _x _x e=>e) k.1 k.2) hx) (fun _x s₃ q=>?_) fun _x _x h=>h;refine ze02 q fun z0 hk3=>?_;clear q;refine ze12 z0 fun gh3 ha3 h3=>?_;clear z0;exact⟨⟨gh3,ha3.trans ha,h3⟩,fun b o hb e=>hk3 b o hb (hk' b o hb e)⟩
theorem zBi.tuple {es:List Expr}{is:List Nat}{c p}(hn:namesOk fs es is)(hlo:zBZ fs es):zBi g j fs (.Tuple es c p) (tgT is):=by
 intro A ids Wo env gh η kp s v y η' hA hE hR r hx;refine zbd hx fun xs hxs hx2=>?_;cases zGA hxs
 ·refine ze25 ((RC.ofR (g:=g) r).tup) fun a vs z1 ht _ r1 _=>?_;subst z1;have q:=zC3 (env:=env) hn;rw[PyProof.Rows.assign_Tuple];refine zzwqb (wpAny_standAt ?_);unfold unpack;rw[q.1,q.2.1,zIT hx2,←r1.length,q.2.2];refine zzwqb (wpAny_holding (zAg (zznlr _) (zznlr _) (unpackItems_tuple (items:=vs.toArray) hA.1 ht fun h' he hz hk=>?_)));have e1:Ext g s {s with heap:=h'}:=zB4 he hz;refine zzwqm (zFV hE es is vs xs gh η η' _ hn hlo (hR.ext e1) (r1.keeps (e1.hext Wt_P)) hx2) (fun _x s₃ q=>?_) fun _x _x h=>h;refine ze02 q fun hq hk3=>?_;clear q;exact⟨hq,fun b o hb e=>hk3 b o hb (he b o (Nat.ne_of_lt (Heap.lt_size e)) e)⟩
noncomputable def zAT (g:GC)(j:Nat)(fs:FS)(ifs:List Expr)(f:List Slot→Option Bool):Prop:=
 ∀ (A:Around) (ids:List Addr) (Wo:Addr→Prop) (env:Env) (gh:Gh) (η:List Slot) (kp:Addr→Option Obj) (s:Shared) (x:Bool),
  AOk j A→EnvOk fs env→Rel g ids Wo env fs.vm gh η kp s→f η=some x→
  wpAny (model g.prog g.w) A (forIn ifs true fun c r=>if r=true then do let ok ←isTrue c env (eval c env);pure (ForInStep.yield ok) else pure (ForInStep.yield r)) (fun v s'=>Ext g s s'∧v=x) Fl s
theorem zAT.nil:zAT g j fs [] (fun _x=>some true):=by
 intro A ids Wo env gh η kp s x hA hE hR hx;cases hx;exact wpAny_tests_nil ⟨Ext.refl _,rfl⟩
theorem zAT.one {e f}(he:SimT g j fs e f):zAT g j fs [e] f:=by
 intro A ids Wo env gh η kp s x hA hE hR hx;exact wpAny_tests_one (he A ids Wo env gh η kp s x hA hE hR hx)
noncomputable def itemF (tg:V→List Slot→Option (List Slot))(ts:List Slot→Option Bool)(fe:List Slot→Option V)(η:List Slot)(x:V):Option (Option V):=
 (tg x η).bind fun η1=>(ts η1).bind fun b=>if b=true then (fe η1).map some else some none
noncomputable def compV (f:V→Option (Option V)):List V→Option (List V)
 | []=>some []
 | x::xs=>(f x).bind fun o=>(compV f xs).bind fun r=>some (match o with | some y=>y::r | none=>r)
theorem zGx {A:Around}{s:Shared}{R:Result→Shared→Prop}{elt target iter:Expr}{ifs:List Expr}{scope:Scope}{pos:Pos}{it acc:Value}{env:Env}(I:Nat→Shared→Prop)
  (turn:∀ n s,I n s→wpAny (model g.prog g.w) A (pyNext it) (fun r s₁=>match r with
   | none=>R (.ok .next) s₁
   | some v=>wpAny (model g.prog g.w) A (letOwnedTupleGo target it v) (fun _x s₁'=>wpAny (model g.prog g.w) A (assign target env v) (fun _x s₂=>
     wpAny (model g.prog g.w) A (forIn ifs true fun c r=>if r=true then do let ok ←isTrue c env (eval c env);pure (ForInStep.yield ok) else pure (ForInStep.yield r)) (fun ok s₃=>
      if ok=true then wpAny (model g.prog g.w) A (eval elt env) (fun x s₄=>
       wpAny (model g.prog g.w) A (call (.builtin "list.append") [acc,x]) (fun _x s₅=>∃ m,m<n∧I m s₅) Fl s₄) Fl s₃
      else ∃ m,m<n∧I m s₃) Fl s₂) Fl s₁') Fl s₁) Fl s)
  (n:Nat) (h:I n s):codeAny (model g.prog g.w) A (.compLoop (.ListComp elt [⟨target,iter,ifs,0⟩] scope pos) 0 it acc env) R s:=by
 refine codeAny_loop rfl I (fun n s hI=>?_) n h;show wpAny _ A ((compTurn (.ListComp elt [⟨target,iter,ifs,0⟩] scope pos) 0 it acc env).onRaise (fun x=>do noteFrame x env;theTreesLotGoes x)) _ _ s;refine wpAny_noted ?_;rw[compTurn_list];refine zzwqb (wpAny_standAt (zzwqb (zzwqm (turn n s hI) (fun r s₁ h₁=>?_) fun _x _x h'=>h'.elim)));cases r with
 | none=>exact zzwqp h₁
 | some v=>
  refine zzwqb (zzwqm h₁ (fun _x s₁' h₁'=>?_) fun _x _x h'=>h'.elim);refine zzwqb (zzwqm h₁' (fun _x s₂ h₂=>zzwqb (zzwqm h₂ (fun ok s₃ h₃=>?_) fun _x _x h'=>h'.elim)) fun _x _x h'=>h'.elim);cases ok with
  | false=>exact zzwqp ⟨rfl,h₃⟩
  | true=>
   exact zzwqb (zzwqb (zzwqm h₃ (fun x s₄ h₄=>zzwqb (zzwqm h₄ (fun _x s₅ h₅=>zzwqp (zzwqp ⟨rfl,h₅⟩)) fun _x _x h'=>h'.elim)) fun _x _x h'=>h'.elim))
theorem Ext.touch {s s₁ s₂:Shared}(e:Ext g s s₁)(N:Addr→Prop)(hN:∀ b,N b→s.heap.objs.size≤b)(hh:∀ b o,¬N b→b≠g.P→s₁.heap.get? b=some o→s₂.heap.get? b=some o)(ht:TabOk g s₂.heap)(hz:s₁.heap.objs.size≤s₂.heap.objs.size)(hg:AllBare s₁.gens→AllBare s₂.gens)
  (ho:s₂.os=s₁.os) (hk:s₁.toks≤s₂.toks):Ext g s s₂:=
 ⟨fun b o hb h=>hh b o (fun n=>absurd (Heap.lt_size h) (Nat.not_lt.mpr (hN b n))) hb (e.heap b o hb h),fun _x=>ht,Nat.le_trans e.size hz,fun h=>hg (e.gens h),ho.trans e.os,Nat.le_trans e.tk hk⟩
theorem zIj {Wo env gh gh'}{η:List Slot}(h:gh'.adr=gh.adr):Wt g Wo env gh' η=Wt g Wo env gh η:=by
 funext b;unfold Wt Own;rw[h]
theorem zFX {env gh gh'}{η:List Slot}(h:gh'.adr=gh.adr):Own env gh' η=Own env gh η:=by
 funext b;unfold Own;rw[h]
theorem zE8 {s s':Shared}{D:Addr}{vs:Array Value}(ht:TabOk g s.heap)(hl:s.heap.PlainList D vs)(hs:Heap.SameBut D s.heap s'.heap)(hP:D≠g.P):TabOk g s'.heap:=by
 refine ze13 ht fun ps hp h1 hc=>?_;clear ht;refine⟨ps,hs.extBut _ _ (Ne.symm hP) hp,h1,fun pos cv e=>?_⟩;refine ze24 (hc pos cv e) fun c q z2 e2 e3 z3=>?_;subst z2;refine ze44 z3 fun c' o vs' t e5 ho hd r=>?_;clear z3;cases e5;refine⟨c,q,rfl,e2,e3,c,o,vs',t,rfl,hs.extBut _ _ (fun h=>?_) ho,hd,r⟩;refine ze11 hl fun n hD=>?_;clear hl;rw[←h,ho] at hD;cases hD;cases hd
end
section
variable {g:GC} {j:Nat} {fs fsC:FS}
structure zBU (fs fsC:FS)(sc:Scope)(L:List Nat):Prop where
 kind:sc.kind=.function
 scope:fsC.scope=zHD sc fs.scope
 code:fsC.code=none
 nocell:∀ y∈sc.names,y.2≠.cell
 names:∀ y∈sc.names,y.2=.local→sc.names.lookup y.1=some .local
 free:∀ y∈sc.names,y.2=.free→∃ i,fs.vm y.1=some i∧zAj fs.scope y.1≠some .local
 var:∀ x i,fsC.vm x=some i→(sc.names.lookup x=some .local∧i∈L)∨(sc.names.lookup x=some .free∧fs.vm x=some i∧zAj fs.scope x≠some .local)
 inj:∀ x y i,fsC.vm x=some i→fsC.vm y=some i→x=y
theorem Rel.comp {ids:List Addr}{Wo Wo':Addr→Prop}{env cenv:Env}{gh:Gh}{η:List Slot}{kp}{s s₁:Shared}{sc:Scope}{L:List Nat}{C:Addr}{m:Str→Option Value}(hR:Rel g ids Wo env fs.vm gh η kp s)(hc:zBU fs fsC sc L)(hE:EnvOk fs env)
  (hL:∀ i∈L,η[i]? = some .undef) (e:Ext g s s₁) (hC:s.heap.objs.size≤C) (hm:s₁.heap.Ns C m) (hce:cenv=compEnvC sc (clOf env.cells sc.names []) C env) (hwo:∀ b,Wo' b→(Wo b∨b=env.locals∨∃ x,env.cells.lookup x=some b)∨(s.heap.objs.size≤b∧b<s₁.heap.objs.size))
  (hCW:∀ b,Wo b∨b=env.locals∨(∃ x,env.cells.lookup x=some b)→Wo' b):
  EnvOk fsC cenv∧Rel g ids Wo' cenv fsC.vm ⟨m,gh.cm,gh.adr⟩ η (fun _x=>none) s₁:=by
 subst hce;have q:=hR.ext e
 have hcl:∀ x c,(clOf env.cells sc.names []).lookup x=some c→env.cells.lookup x=some c:=fun x c h=>by
  rcases zDh h with h | h
  ·simp at h
  ·exact h
 have hCn:∀ o,s.heap.get? C≠some o:=zAf hC;have hE':EnvOk fsC (compEnvC sc (clOf env.cells sc.names []) C env):=⟨by rw[hc.scope,←hE.scope];rfl,hc.kind,hE.globals,hE.builtins,fun c q h=>by rw[hc.code] at h;exact noneE h⟩
 have reach:∀ x i,fs.vm x=some i→zAj fs.scope x≠some .local→(x==("__classdict__":Str))=false∧∃ c,env.cells.lookup x=some c:=fun x i hx hk=>by
  refine ze02 (hR.var x i hx) fun hr _=>?_;rcases hr with h | ⟨_,h1,c,h2⟩
  ·exact absurd (by unfold Env.kindOf at h;rw[hE.scope] at h;exact h) hk
  ·exact⟨h1,c,h2⟩
 have own:∀ b,Own (compEnvC sc (clOf env.cells sc.names []) C env) ⟨m,gh.cm,gh.adr⟩ η b→b=C∨Own env gh η b:=by
  intro b hb;rcases hb with h | ⟨x,h⟩ | h
  ·exact .inl h
  ·exact .inr (.inr (.inl ⟨x,hcl x b h⟩))
  ·exact .inr (.inr (.inr h))
 have hw:∀ b o,s.heap.get? b=some o→¬Wt g Wo env gh η b→¬Wt g Wo' (compEnvC sc (clOf env.cells sc.names []) C env) ⟨m,gh.cm,gh.adr⟩ η b:=by
  intro b o ho hn h;rcases h with h | h | h
  ·rcases hwo b h with h | ⟨h,_⟩
   ·rcases h with h | h | h
    ·exact hn (.inl h)
    ·exact hn (.inr (.inr (.inl h)))
    ·exact hn (.inr (.inr (.inr (.inl h))))
   ·exact absurd (Heap.lt_size ho) (Nat.not_lt.mpr h)
  ·exact hn (.inr (.inl h))
  ·rcases own b h with rfl | h
   ·exact hCn o ho
   ·exact hn (.inr (.inr h))
 have hm2:=hm;refine ze32 hm2 fun oC _ _ hoC _=>?_;clear hm2;have hClt:=Heap.lt_size hoC;refine⟨hE',?_⟩;refine
  {keep0:=q.keep0
   keep:=fun _x _x e=>by exact noneE e
   tab:=q.tab
   gens:=q.gens
   os:=q.os
   ns:=hm
   cell:=fun x c h=>q.cell x c (hcl x c h)
   capart:=fun x y c h1 h2=>q.capart x y c (hcl x c h1) (hcl y c h2)
   lcell:=fun x c h hCc=>?_
   adrL:=fun i sl l h1 h2 hCc=>?_
   adrC:=fun i sl l h1 h2 x c h=>q.adrC i sl l h1 h2 x c (hcl x c h)
   adrA:=q.adrA
   adrWo:=fun i sl l h1 h2 h=>?_
   off:=fun b hb=>?_
   offP:=⟨rfl,q.offP.2⟩
   var:=fun x i hx=>?_
   vinj:=hc.inj
   cnt:=q.cnt
   idok:=q.idok
   wlt:=fun b hb=>?_
   tk:=q.tk
   idoff:=fun n a e h=>?_}
 ·refine ze12 (hR.cell x c (hcl x c h)) fun o ho _=>?_;have hCc':c=C:=hCc;exact hCn o (hCc'▸ho)
 ·exact absurd (hR.ownLt (.inr (.inr ⟨i,sl,l,h1,h2,rfl⟩))) (by rw[hCc];exact Nat.not_lt.mpr hC)
 ·rcases hwo _ h with h | ⟨h,_⟩
  ·rcases h with h | h | ⟨x,h⟩
   ·exact hR.adrWo i sl l h1 h2 h
   ·exact hR.adrL i sl l h1 h2 h
   ·exact hR.adrC i sl l h1 h2 x _ h rfl
  ·exact absurd (hR.ownLt (.inr (.inr ⟨i,sl,l,h1,h2,rfl⟩))) (Nat.not_lt.mpr h)
 ·rcases own b hb with rfl | hb
  ·refine⟨rfl,?_,fun h=>?_⟩
   ·cases k:g.h0.get? b with
    | none=>rfl
    | some o=>exact absurd (hR.keep0 b o k) (hCn o)
   ·refine ze12 hR.tab fun ps hp _=>?_;exact hCn _ (h▸hp)
  ·exact⟨rfl,(q.off b hb).2⟩
 ·rcases hc.var x i hx with ⟨hl,hi⟩ | ⟨hf,hv,hk⟩
  ·exact⟨.inl (lookup_relabel_local hl),.undef,hL i hi,trivial⟩
  ·refine ze02 (reach x i hv hk) fun hcd z4=>?_;refine ze11 z4 fun c hcx=>?_;clear z4;refine ze02 (hR.var x i hv) fun _ z5=>?_;refine ze12 z5 fun sl h1 h2=>?_;clear z5;have hk':(compEnvC sc (clOf env.cells sc.names []) C env).kindOf x=some .cell∨(compEnvC sc (clOf env.cells sc.names []) C env).kindOf x=some .free:=zDq hf;have hclx:(clOf env.cells sc.names []).lookup x=some c:=zCU (by simp) (mem_of_lookup hf) hcx;refine⟨.inr ⟨hk',hcd,c,hclx⟩,sl,h1,?_⟩;have hv1:valOf (compEnvC sc (clOf env.cells sc.names []) C env) ⟨m,gh.cm,gh.adr⟩ x=gh.cm x:=by
    exact zBM (by rcases hk' with h | h<;>rw[h]<;>exact nofun)
   have hv2:valOf env gh x=gh.cm x:=by
    exact zBM fun h=>by unfold Env.kindOf at h;rw[hE.scope] at h;exact hk h
   rw[hv1,←hv2];exact h2.mono (e.hext Wt_P) hw fun l hl o ho=>e.heap _ _ (hR.off _ (.inr (.inr ⟨i,sl,l,h1,hl,rfl⟩))).2.2 ho
 ·rcases hb with h | h | h
  ·rcases hwo b h with h | ⟨_,h⟩
   ·rcases h with h | h | h
    ·exact q.wlt b (.inl h)
    ·exact q.wlt b (.inr (.inr (.inl h)))
    ·exact q.wlt b (.inr (.inr (.inr (.inl h))))
   ·exact h
  ·exact q.wlt b (.inr (.inl h))
  ·rcases own b h with rfl | h
   ·exact hClt
   ·exact q.wlt b (.inr (.inr h))
 ·refine ze12 (hR.idok.there n a e) fun o ho _=>?_;exact hw a o ho (hR.idoff n a e) h
theorem EnvOk.freeCl {env:Env}{ids Wo gh η kp}{s:Shared}{sc:Scope}{L:List Nat}(hE:EnvOk fs env)(hR:Rel g ids Wo env fs.vm gh η kp s)(hc:zBU fs fsC sc L):closureFor sc env=pure (clOf env.cells sc.names []):=by
 refine zFT fun y hy hf=>?_;refine ze12 (hc.free y hy hf) fun i hv hk=>?_;refine ze02 (hR.var y.1 i hv) fun hr _=>?_;rcases hr with h | ⟨_,_,c,h⟩
 ·exact absurd (by unfold Env.kindOf at h;rw[hE.scope] at h;exact h) hk
 ·exact⟨c,h⟩
noncomputable def CompEnd (g:GC)(ids:List Addr)(W:Addr→Prop)(s:Shared)(ys:List V)(A:Around)(use:Option (Value→Sem Unit))(Q:Value→Shared→Prop):Prop:=
 ∀ (s':Shared) (C D:Addr) (vs:List Value),Ext g s s'→s.heap.objs.size≤C→s.heap.objs.size≤D→C≠D→C<s'.heap.objs.size→D<s'.heap.objs.size→(∃ m,s'.heap.Ns C m)→s'.heap.PlainList D vs.toArray→
  RL ids s'.heap (fun b=>W b∨b=C∨b=D) vs ys→match use with
   | none=>∀ h',Heap.SameBut C s'.heap h'→Q (.ref D) {s' with heap:=h'}
   | some u=>wpAny (model g.prog g.w) A (u (.ref D)) (fun _ s''=>∃ m,s''.heap.Ns C m∧∀ h',Heap.SameBut C s''.heap h'→Q .none {s'' with heap:=h'}) Fl s'
noncomputable def Slot.isUndef:Slot→Bool
 | .undef=>true
 | _=>false
noncomputable def compF (L:List Nat)(fi:List Slot→Option (List V))(tg:V→List Slot→Option (List Slot))(ts:List Slot→Option Bool)(fe:List Slot→Option V):List Slot→Option (List V):=fun η=>
 if (L.all fun i=>η[i]?.any Slot.isUndef)=true then (fi η).bind fun xs=>if xs.length≤sizeLine then compV (itemF tg ts fe η) xs else none else none
theorem zGw {L:List Nat}{fi:List Slot→Option (List V)}{tg:V→List Slot→Option (List Slot)}{ts:List Slot→Option Bool}{fe:List Slot→Option V}{η:List Slot}{ys:List V}(h:compF L fi tg ts fe η=some ys):
  (∀ i∈L,η[i]? = some .undef)∧∃ xs,fi η=some xs∧xs.length≤sizeLine∧compV (itemF tg ts fe η) xs=some ys:=by
 refine ze02 (zAl h) fun h1 h=>?_;refine zbd h fun xs h2 h=>?_;refine ze02 (zAl h) fun h3 h=>?_;refine⟨fun i hi=>?_,xs,h2,h3,h⟩;have:=List.all_eq_true.mp h1 i hi;cases e:η[i]? with
 | none=>rw[e] at this;cases this
 | some sl=>
  rw[e] at this;cases sl with
  | undef=>rfl
  | _=>cases this
theorem zIa {f}:∀ {xs ys},compV f xs=some ys→ys.length≤xs.length
 | [],ys,h=>by cases h;exact zznlr _
 | x::xs,ys,h=>by
  refine zbd h fun o h1 h=>?_;refine zbd h fun r h2 h=>?_;cases h;have:=zIa h2;cases o<;>simp<;>lia
structure zND (g:GC)(ids:List Addr)(Wo':Addr→Prop)(cenv:Env)(vm:Str→Option Nat)(gh0:Gh)(η:List Slot)(f:V→Option (Option V))(xs ys:List V)(fp:List Addr)(P:Nat→Value→Prop)(St:Nat→Heap→Prop)(I C D:Addr)(s:Shared)
  (k:Nat) (vs:List Value) (ys0:List V) (gh':Gh) (s':Shared):Prop where
 le:k≤xs.length
 adr:gh'.adr=gh0.adr
 rel:Rel g ids Wo' cenv vm gh' η (fun _=>none) s'
 st:St k s'.heap
 ext:Ext g s s'
 acc:s'.heap.PlainList D (List.toArray vs)
 rl:RL ids s'.heap (Wt g Wo' cenv gh0 η) vs ys0
 run:(compV f (xs.drop k)).map (ys0++·)=some ys
 len:vs.length≤k
 fp:∀ b∈fp,b=I∨(¬Wt g Wo' cenv gh0 η b∧∃ o,s'.heap.get? b=some o)
 cl:C<s'.heap.objs.size
 dl:D<s'.heap.objs.size
 items:∀ i v,P i v→∃ x,xs[i]? = some x∧R ids s'.heap (Wt g Wo' cenv gh0 η) v x
theorem zGv {elt target iter:Expr}{ifs:List Expr}{sc:Scope}{pos p:Pos}{L:List Nat}{fi tg ts fe}{use:Option (Value→Sem Unit)}{Q:Value→Shared→Prop}
  (hs:Src g j fs iter fi) (hc:zBU fs fsC sc L) (ht:zBi g j fsC target tg) (hW:∀ η x η1,(∀ i∈L,η[i]? = some Slot.undef)→tg x η=some η1→Weak η1 η) (hi:zAT g j fsC ifs ts) (he:SimE g j fsC elt fe)
  (hf:∀ env x,foldedSetIterable iter env x=pure x)
  {A:Around} {ids:List Addr} {Wo:Addr→Prop} {env:Env} {gh:Gh} {η:List Slot} {kp} {s:Shared} {ys:List V} (hA:AOk j A) (hE:EnvOk fs env) (hR:Rel g ids Wo env fs.vm gh η kp s) (hx:compF L fi tg ts fe η=some ys)
  (hQ:CompEnd g ids (Wt g Wo env gh η) s ys A use Q):
  wpAny (model g.prog g.w) A (comprehension (.ListComp elt [⟨target,iter,ifs,0⟩] sc pos) sc env p (newList []) false (eval iter env) use) Q Fl s:=by
 refine ze02 (zGw hx) fun hL z6=>?_;refine ze13 z6 fun xs hxi hxz hx=>?_;clear z6;refine wpAny_comprehension_free rfl (hf env) (hE.freeCl hR hc) hc.kind hc.names ?_;refine zzwqm (hs A ids Wo env gh η kp s xs hA hE hR hxi) (fun xv s₁ h₁=>zzwqm h₁ (fun it s₂ h₂=>?_) fun _x _x h=>h) fun _x _x h=>h;refine ze02 h₂ fun e1 z0=>?_;clear h₂;refine ze47 z0 fun I fp St P z1 hI1 hI2 W hst hfp hP=>?_;clear z0;subst z1;refine wpAny_newObj_type (wpAny_newFunctionEnv hc.nocell (by intro y hy;simp at hy) (fun h₁ hns₁ hsb₁=>?_) hc.kind);dsimp only at hns₁ hsb₁ ⊢;generalize hH2:s₂.heap.push {cls:=.type "list",dict:=none,data:=.seq ([]:List Value).toArray}=H2 at hns₁ hsb₁ ⊢;have hC:H2.objs.size=s₂.heap.objs.size+1:=by rw[←hH2,Heap.size_push]
 have hz1:h₁.objs.size=s₂.heap.objs.size+1+1:=by rw[hsb₁.1,Heap.size_push,hC]
 have hDC:s₂.heap.objs.size≠H2.objs.size:=by rw[hC];exact Nat.ne_of_lt (Nat.lt_succ_self _)
 have below:∀ b,b<s₂.heap.objs.size→b≠H2.objs.size∧b≠s₂.heap.objs.size:=fun b hb=>⟨by rw[hC];exact Nat.ne_of_lt (Nat.lt_succ_of_lt hb),Nat.ne_of_lt hb⟩
 have old:∀ b o,s₂.heap.get? b=some o→h₁.get? b=some o:=fun b o e=>hsb₁.extBut b o (below b (Heap.lt_size e)).1 (Heap.get?_push_of_some _ (hH2▸Heap.get?_push_of_some _ e));have hacc:h₁.PlainList s₂.heap.objs.size ([]:List Value).toArray:=⟨_,hsb₁.extBut _ _ hDC (Heap.get?_push_of_some _ (hH2▸Heap.get?_push_size _ rfl))⟩
 have hst₁:St 0 h₁:=(W.walks A hA.1).frame _ _ _ hst fun b _x o e=>old b o e;have e2:Ext g s {s₂ with heap:=h₁,toks:=s₂.toks+([]:List (Str×Value)).length}:=e1.trans (Ext.of_heap old (by rw[hz1];exact Nat.le_add_right_of_le (zznar _ _)) (zznlr _));generalize hD:s₂.heap.objs.size=D at *;generalize hCC:H2.objs.size=C at *;generalize hs3:({s₂ with heap:=h₁,toks:=s₂.toks+([]:List (Str×Value)).length}:Shared)=s₃ at e2;have hsD:s.heap.objs.size≤D:=hD▸e1.size;have hsC:s.heap.objs.size≤C:=by exact zn38 hC hsD
 have h3h:s₃.heap=h₁:=by rw[←hs3]
 have hID:I≠D:=Nat.ne_of_lt hI2;have hIC:I≠C:=by rw[hC];exact Nat.ne_of_lt (Nat.lt_succ_of_lt hI2)
 have Wo'0:∃ Wo':Addr→Prop,Wo'=fun b=>(Wo b∨b=env.locals∨∃ x,env.cells.lookup x=some b)∨b=I∨b=D:=⟨_,rfl⟩
 refine ze11 Wo'0 fun Wo' hWo'=>?_;clear Wo'0;have hcenv0:∃ cenv,cenv=compEnvC sc (clOf env.cells sc.names []) C env:=⟨_,rfl⟩
 refine ze11 hcenv0 fun cenv hce=>?_;clear hcenv0;obtain⟨hEc,hRc⟩:=hR.comp (Wo':=Wo') (cenv:=cenv) (m:=fun x=>([]:List (Str×Value)).reverse.lookup x) hc hE hL e2 hsC (h3h▸hns₁) hce (fun b hb=>by
   subst hWo';rcases hb with h | rfl | rfl
   ·exact .inl h
   ·exact .inr ⟨hI1,by rw[h3h,hz1];exact Nat.lt_succ_of_lt (Nat.lt_succ_of_lt hI2)⟩
   ·exact .inr ⟨hsD,by rw[h3h,hz1];exact Nat.lt_succ_of_lt (Nat.lt_succ_self _)⟩) (fun b hb=>by subst hWo';exact .inl hb)
 have hcl:∀ x c,(clOf env.cells sc.names []).lookup x=some c→env.cells.lookup x=some c:=fun x c h=>by
  rcases zDh h with h | h
  ·simp at h
  ·exact h
 have ownI:∀ b,Own cenv ⟨fun x=>([]:List (Str×Value)).reverse.lookup x,gh.cm,gh.adr⟩ η b→b=C∨Own env gh η b:=by
  clear hEc hRc;subst hce;intro b hb;rcases hb with h | ⟨x,h⟩ | h
  ·exact .inl h
  ·exact .inr (.inr (.inl ⟨x,hcl x b h⟩))
  ·exact .inr (.inr (.inr h))
 have hnI:¬Own cenv ⟨fun x=>([]:List (Str×Value)).reverse.lookup x,gh.cm,gh.adr⟩ η I:=fun h=>by
  rcases ownI I h with h | h
  ·exact hIC h
  ·exact absurd (hR.ownLt h) (Nat.not_lt.mpr hI1)
 have hnD:¬Own cenv ⟨fun x=>([]:List (Str×Value)).reverse.lookup x,gh.cm,gh.adr⟩ η D:=fun h=>by
  rcases ownI D h with h | h
  ·exact hDC h
  ·exact absurd (hR.ownLt h) (Nat.not_lt.mpr hsD)
 have h0of:∀ b,s.heap.objs.size≤b→g.h0.get? b=none:=fun b hb=>by
  cases q:g.h0.get? b with | none=>rfl | some o=>exact absurd (hR.keep0 b o q) (zAf hb o)
 have hnP:∀ b,s.heap.objs.size≤b→b≠g.P:=fun b hb h=>by obtain⟨ps,hp,_⟩:=hR.tab;exact zAf hb _ (h▸hp)
 have WC:∀ b,(Wt g Wo env gh η b∨b=C∨b=D)→Wt g Wo' cenv ⟨fun x=>([]:List (Str×Value)).reverse.lookup x,gh.cm,gh.adr⟩ η b:=by
  clear hEc hRc ownI hnI hnD;subst hWo' hce;intro b hb;rcases hb with (h | h | h) | h | h
  ·exact .inl (.inl (.inl h))
  ·exact .inr (.inl h)
  ·rcases h with h | h | h
   ·exact .inl (.inl (.inr (.inl h)))
   ·exact .inl (.inl (.inr (.inr h)))
   ·exact .inr (.inr (.inr (.inr h)))
  ·exact .inr (.inr (.inl h))
  ·exact .inl (.inr (.inr h))
 have WC2:∀ b,Wt g Wo' cenv ⟨fun x=>([]:List (Str×Value)).reverse.lookup x,gh.cm,gh.adr⟩ η b→Wt g Wo env gh η b∨b=C∨b=D∨b=I:=by
  intro b hb;clear hEc hRc hnI hnD WC;rcases hb with h | h | h
  ·clear ownI;subst hWo';rcases h with (h | h | h) | rfl | rfl
   ·exact .inl (.inl h)
   ·exact .inl (.inr (.inr (.inl h)))
   ·exact .inl (.inr (.inr (.inr (.inl h))))
   ·exact .inr (.inr (.inr rfl))
   ·exact .inr (.inr (.inl rfl))
  ·exact .inl (.inr (.inl h))
  ·rcases ownI b h with h | h
   ·exact .inr (.inl h)
   ·exact .inl (.inr (.inr h))
 have hWI:Wo' I:=by subst hWo';exact .inr (.inl rfl)
 have hWD:Wo' D:=by subst hWo';exact .inr (.inr rfl)
 have hloc:cenv.locals=C:=by subst hce;rfl
 generalize hgh0:(⟨fun x=>([]:List (Str×Value)).reverse.lookup x,gh.cm,gh.adr⟩:Gh)=gh0 at hRc hnI hnD WC WC2;have fp0:∀ b∈fp,b=I∨(¬Wt g Wo' cenv gh0 η b∧∃ o,s₃.heap.get? b=some o):=fun b hb=>by
  rcases hfp b hb with h | ⟨h,o,ho⟩
  ·exact .inl h
  ·by_cases hbI:b=I
   ·exact .inl hbI
   refine .inr ⟨fun q=>?_,o,h3h▸old b o ho⟩;have:=below b (hD▸Heap.lt_size ho);rcases WC2 b q with q | q | q | q
   ·exact h q
   ·exact this.1 q
   ·exact this.2 q
   ·exact hbI q
 have hP0:∀ i v,P i v→∃ x,xs[i]? = some x∧R ids s₃.heap (Wt g Wo' cenv gh0 η) v x:=fun i v hp=>by
  refine ze12 (hP i v hp) fun x a r=>?_;refine⟨x,a,r.mono (fun _x _x e=>e) (fun b o _x e=>h3h▸old b o e) fun b o ho hn q=>?_⟩;have:=below b (hD▸Heap.lt_size ho);rcases WC2 b q with q | q | q | q
  ·exact hn (.inl q)
  ·exact this.1 q
  ·exact this.2 q
  ·exact hn (.inr q)
 have loop:codeAny (model g.prog g.w) A (.compLoop (.ListComp elt [⟨target,iter,ifs,0⟩] sc pos) 0 (.ref I) (.ref D) cenv) (compPost (model g.prog g.w) A Fl use Q (.ref D) C) s₃:=by
  obtain⟨Inv,hInv⟩:∃ Inv:Nat→Shared→Prop,Inv=fun n s'=>∃ k vs ys0 gh',n=xs.length+1-k∧zND g ids Wo' cenv fsC.vm gh0 η (itemF tg ts fe η) xs ys fp P St I C D s k vs ys0 gh' s':=⟨_,rfl⟩
  have hC0:C<s₃.heap.objs.size:=by rw[h3h,hz1,hC];exact Nat.lt_succ_self _
  have hD0:D<s₃.heap.objs.size:=by rw[h3h,hz1];exact Nat.le_succ _
  refine zGx Inv ?_ (xs.length+1) (by rw[hInv];exact
   ⟨0,[],[],gh0,rfl,Nat.zero_le _,rfl,hRc,h3h▸hst₁,e2,h3h▸hacc,.nil,by simp[hx],Nat.le_refl _,fp0,hC0,hD0,hP0⟩)
  rintro n s' hI
  rw[hInv] at hI;refine ze42 hI fun k vs ys0 gh' z2 hV=>?_;clear hI;subst z2;obtain⟨hk,ha,hR',hst',e',hD',hr',hx',hv',hfp',hC',hDl,hP'⟩:=hV;have WD:Wt g Wo' cenv gh0 η D:=.inl hWD;have WI:Wt g Wo' cenv gh0 η I:=.inl hWI;have WCC:Wt g Wo' cenv gh0 η C:=WC C (.inr (.inl rfl));refine zAg (n:=s'.heap.objs.size) (k:=s'.toks) (zznlr _) (zznlr _) (hR'.turn (i:=k) hA.1 W ⟨hWI,by rw[zFX ha];exact hnI,hnP I hI1,rfl,h0of I hI1⟩ hst' (fun hlt v s₄ hp hst₄ hR₄ hk₄ hz₄ _x ht₄=>?_) (fun he s₄ hR₄ hk₄ hz₄ _x ht₄=>?_) hk)
  ·dsimp only;have e4:Ext g s s₄:=e'.touch (fun b=>b=I) (fun b hb=>hb▸hI1) (fun b o hb _x e=>hk₄ b o hb e) hR₄.tab hz₄ (fun _x=>hR₄.gens) (hR₄.os.trans hR'.os.symm) ht₄;refine(W.it _ _ hst₄).go ?_;refine ze12 (hP' k v hp) fun x hxi r=>?_;have hd:xs.drop k=x::xs.drop (k+1):=by
    rw[List.drop_eq_getElem_cons hlt];congr 1;have:=zzlge hlt;rw[hxi] at this;exact(zzosi this).symm
   rw[hd] at hx';refine ze12 (Option.map_eq_some_iff.mp hx') fun l hl hys=>?_;refine zbd hl fun o2 h1 hl=>?_;refine zbd hl fun rest hrest hl=>?_;refine zbd h1 fun η1 htg h1=>?_;refine zbd h1 fun b2 hts h1=>?_;have h34:HExt (Wt g Wo' cenv gh0 η) s'.heap s₄.heap:=fun b o hb e=>hk₄ b o (fun h=>hb (h▸WI)) e;have hWk:Weak η1 η:=hW η x η1 hL htg;refine zAg (n:=s₄.heap.objs.size) (k:=s₄.toks) (zznlr _) (zznlr _) (zzwqm (ht A ids Wo' cenv gh' η _ s₄ v x η1 hA hEc hR₄.all (by rw[zIj ha];exact r.keeps h34) htg) (fun _ s₅ ⟨⟨gh₅,ha₅,hR₅⟩,hk₅⟩ hz₅ ht₅=>?_) fun _x _x h=>h);rw[hloc] at hk₅;have hR₅':Rel g ids Wo' cenv fsC.vm gh₅ η1 (fun _x=>none) s₅:=hR₅.back fun _x _x e=>by exact noneE e
   have ha5:gh₅.adr=gh0.adr:=ha₅.trans ha;have e5:Ext g s s₅:=e4.touch (fun b=>b=C) (fun b hb=>hb▸hsC) (fun b o hb _x e=>hk₅ b o hb e) hR₅.tab hz₅ (fun _x=>hR₅.gens) (hR₅.os.trans hR₄.os.symm) ht₅
   have next:∀ (s₈:Shared) (gh₈:Gh) (vs8:List Value) (y8:List V),gh₈.adr=gh0.adr→Rel g ids Wo' cenv fsC.vm gh₈ η (fun _x=>none) s₈→(∀ b o,b≠C→b≠D→b≠g.P→s₄.heap.get? b=some o→s₈.heap.get? b=some o)→Ext g s s₈→
     s₈.heap.PlainList D (List.toArray vs8)→RL ids s₈.heap (Wt g Wo' cenv gh0 η) vs8 (ys0++y8)→(compV (itemF tg ts fe η) (xs.drop (k+1))).map ((ys0++y8)++·)=some ys→vs8.length≤k+1→s₄.heap.objs.size≤s₈.heap.objs.size→∃ m,m<xs.length+1-k∧Inv m s₈:=by
    intro s₈ gh₈ vs8 y8 q1 q2 q3 q4 q5 q6 q7 q8 q9;rw[hInv];have h48:HExt (Wt g Wo' cenv gh0 η) s₄.heap s₈.heap:=fun b o hb e=>q3 b o (fun h=>hb (h▸WCC)) (fun h=>hb (h▸WD)) (fun h=>hb (h▸Wt_P)) e;refine⟨xs.length+1-(k+1),by exact zn17 hlt,k+1,vs8,ys0++y8,gh₈,rfl,hlt,q1,q2,?_,q4,q5,q6,q7,q8,fun b hb=>?_,Nat.lt_of_lt_of_le hC' (zznlt hz₄ q9),Nat.lt_of_lt_of_le hDl (zznlt hz₄ q9),fun i v hp=>?_⟩
    ·refine(W.walks A hA.1).frame _ _ _ hst₄ fun b hb o e=>?_;rcases hfp' b hb with rfl | ⟨h,_⟩
     ·exact q3 b o hIC hID (hnP b hI1) e
     ·exact h48 b o h e
    ·rcases hfp' b hb with h | ⟨h,o,ho⟩
     ·exact .inl h
     ·exact .inr ⟨h,o,h48 b o h (h34 b o h ho)⟩
    ·refine ze12 (hP' i v hp) fun x a r=>?_;exact⟨x,a,(r.keeps h34).keeps h48⟩
   refine zzwqm (hi A ids Wo' cenv gh₅ η1 _ s₅ b2 hA hEc hR₅' hts) (fun ok s₆ q=>?_) fun _x _x h=>h;refine ze02 q fun e6 hok=>?_;clear q;subst hok;have hR6:=hR₅'.ext e6;have D5:s₅.heap.PlainList D (List.toArray vs):=(hD'.at fun o e=>hk₄ _ o (Ne.symm hID) e).at fun o e=>hk₅ _ o hDC e;have D6:s₆.heap.PlainList D (List.toArray vs):=D5.at fun o e=>e6.heap _ _ (hnP D hsD) e;have h46:∀ b o,b≠C→b≠g.P→s₄.heap.get? b=some o→s₆.heap.get? b=some o:=fun b o hb hp e=>e6.heap b o hp (hk₅ b o hb e);have hx6:HExt (Wt g Wo' cenv gh0 η) s'.heap s₆.heap:=fun b o hb e=>h46 b o (fun h=>hb (h▸WCC)) (fun h=>hb (h▸Wt_P)) (h34 b o hb e);have hW5:∀ b,Wt g Wo' cenv gh0 η b↔Wt g Wo' cenv gh₅ η1 b:=fun b=>by rw[←zIj (g:=g) (Wo:=Wo') (env:=cenv) (η:=η) ha5];exact hWk.wt
   cases ok with
   | false=>
    simp only[Bool.false_eq_true,if_false] at h1 ⊢;cases h1;cases hl;refine next s₆ gh₅ vs [] ha5 (hR6.weak hWk) (fun b o hb _x hp e=>h46 b o hb hp e) (e5.trans e6) D6 (by simpa using hr'.keeps hx6) (by rw[hrest];simpa using hys) (Nat.le_succ_of_le hv') (zznlt hz₅ e6.size)
   | true=>
    simp only[if_true] at h1 ⊢;refine ze12 (Option.map_eq_some_iff.mp h1) fun y hy h1=>?_;subst h1;cases hl;refine zzwqm (he A ids Wo' cenv gh₅ η1 _ s₆ y hA hEc hR6 hy) (fun v7 s₇ q=>?_) fun _x _x h=>h;refine ze02 q fun e7 r7=>?_;clear q;have D7:s₇.heap.PlainList D (List.toArray vs):=D6.at fun o e=>e7.heap _ _ (hnP D hsD) e;refine wpAny_list_append_plain (hsz:=by simp;exact zn106 hlt hxz hv') D7 fun h8 hl8 hs8=>?_;have hR7:=(hR6.ext e7).weak hWk;have tab8:TabOk g h8:=zE8 (s':={s₇ with heap:=h8}) hR7.tab D7 hs8 (hnP D hsD);have hsz8:s₇.heap.objs.size=h8.objs.size:=hs8.1.symm;have hR8:Rel g ids Wo' cenv fsC.vm gh₅ η (fun _x=>none) {s₇ with heap:=h8}:=hR7.touch (fun b=>b=D) (fun b hb=>by subst hb;exact⟨hWD,by rw[zFX ha5];exact hnD,hnP _ hsD,rfl,h0of _ hsD⟩) (fun b o hb e=>hs8.extBut b o hb e) (Nat.le_of_eq hsz8) (fun h=>h) rfl (zznlr _) tab8;have x78:HExt (Wt g Wo' cenv gh0 η) s₇.heap h8:=fun b o hb e=>hs8.extBut b o (fun h=>hb (h▸WD)) e;have x67:HExt (Wt g Wo' cenv gh0 η) s₆.heap s₇.heap:=fun b o hb e=>e7.heap b o (fun h=>hb (h▸Wt_P)) e
    refine next _ gh₅ (vs++[v7]) [y] ha5 hR8 (fun b o hb hbD hp e=>hs8.extBut b o hbD (e7.heap b o hp (h46 b o hb hp e))) ((e5.trans e6).trans e7|>.touch (fun b=>b=D) (fun b hb=>hb▸hsD) (fun b o hb _x e=>hs8.extBut b o hb e) tab8 (Nat.le_of_eq hsz8) (fun h=>h) rfl (zznlr _))
     (by simpa using hl8) (((hr'.keeps hx6).keeps x67|>.keeps x78).append (.cons ((r7.sub fun b h=>(hW5 b).mp h).keeps x78) .nil)) (by rw[hrest];simpa using hys) (by simp;exact hv') (by show s₄.heap.objs.size≤h8.objs.size;rw[←hsz8];exact zznlt hz₅ (zznlt e6.size e7.size))
  ·dsimp only;subst he;simp[compV] at hx';subst hx';have e4:Ext g s s₄:=e'.touch (fun b=>b=I) (fun b hb=>hb▸hI1) (fun b o hb _x e=>hk₄ b o hb e) hR₄.tab hz₄ (fun _x=>hR₄.gens) (hR₄.os.trans hR'.os.symm) ht₄;have hns:s₄.heap.Ns C gh'.m:=hloc▸hR₄.ns;have h34:HExt (Wt g Wo' cenv gh0 η) s'.heap s₄.heap:=fun b o hb e=>hk₄ b o (fun h=>hb (h▸WI)) e;have fin:=hQ s₄ C D vs e4 hsC hsD (Ne.symm hDC) (zznlv hC' hz₄) (zznlv hDl hz₄) ⟨_,hns⟩ (hD'.at fun o e=>hk₄ _ o (Ne.symm hID) e) ((hr'.keeps h34).sub WC);cases use with
   | none=>exact⟨_,hns,fin⟩
   | some u=>exact fin
 have:=codeAny_compStart_list (prog:=g.prog) (w:=g.w) (A:=A) (elt:=elt) (target:=target) (iter:=iter) (ifs:=ifs) (rest:=[]) (scope:=sc) (pos:=pos) (it:=.ref I) (acc:=.ref D) (env:=cenv) (s:=s₃) loop ((W.walks A hA.1).self 0 _ _ _ (h3h▸hst₁) loop);subst hce;exact this
end
theorem R.avoidB {ids:List Addr}{h:Heap}{W:Addr→Prop}{C:Addr}(hC:∀ o,h.get? C=some o→∀ items n,o.data≠.seq items n):(∀ {v x},R ids h W v x→R ids h (fun b=>W b∨b=C) v x)∧∀ {vs xs},RL ids h W vs xs→RL ids h (fun b=>W b∨b=C) vs xs:=
 R.ind .none .bool .int .str .obj (fun a vs xs hz ht hn ih=>.tup a vs xs hz ht (fun q=>q.elim hn fun q=>by obtain⟨o,ho,hc,n,hd⟩:=ht;exact hC o (q▸ho) _ _ hd) ih)
  (fun a vs xs hz ht hn ih=>.lst a vs xs hz ht (fun q=>q.elim hn fun q=>by obtain⟨o,ho,hc,n,hd⟩:=ht;exact hC o (q▸ho) _ _ hd) ih) .nil (fun _x _x _x _x=>.cons)
theorem R.avoid {ids:List Addr}{h:Heap}{W:Addr→Prop}{C:Addr}(hC:∀ o,h.get? C=some o→∀ items n,o.data≠.seq items n){v:Value}{x:V}(r:R ids h W v x):R ids h (fun b=>W b∨b=C) v x:=(R.avoidB hC).1 r
theorem RL.avoid {ids:List Addr}{h:Heap}{W:Addr→Prop}{C:Addr}(hC:∀ o,h.get? C=some o→∀ items n,o.data≠.seq items n){vs:List Value}{xs:List V}(r:RL ids h W vs xs):RL ids h (fun b=>W b∨b=C) vs xs:=(R.avoidB hC).2 r
section
variable {g:GC} {j:Nat} {fs fsC:FS}
theorem zGU {h:Heap}{C:Addr}{m}(hn:h.Ns C m){o:Obj}(ho:h.get? C=some o):(∀ items n,o.data≠.seq items n)∧∀ vs,o.data≠.fields vs:=by
 refine ze33 hn fun o2 es ep ho2 hd _=>?_;clear hn;rw[ho] at ho2;cases ho2;exact⟨fun _x _x q=>(by rw[hd] at q;cases q),fun _x q=>(by rw[hd] at q;cases q)⟩
theorem Rel.avoid {ids Wo env vm gh η kp}{s:Shared}{C:Addr}{m}(hR:Rel g ids Wo env vm gh η kp s)(hn:s.heap.Ns C m)(hO:¬Own env gh η C)(hi:∀ n:Nat,ids[n]?≠some C):Rel g ids (fun b=>Wo b∨b=C) env vm gh η kp s:=
 have hC:∀ o,s.heap.get? C=some o→∀ items n,o.data≠.seq items n:=fun o ho=>(zGU hn ho).1
 have hw:∀ b,Wt g (fun b=>Wo b∨b=C) env gh η b→Wt g Wo env gh η b∨b=C:=fun b h=>by
  rcases h with (h | h) | h
  ·exact .inl (.inl h)
  ·exact .inr h
  ·exact .inl (.inr h)
 {hR with
  adrWo:=fun i sl l h1 h2 h=>h.elim (hR.adrWo i sl l h1 h2) fun q=>hO (q▸.inr (.inr ⟨i,sl,l,h1,h2,rfl⟩))
  var:=fun x i hx=>by
   refine ze02 (hR.var x i hx) fun hr z3=>?_;refine ze12 z3 fun sl h1 h2=>?_;clear z3;refine⟨hr,sl,h1,?_⟩;cases sl with
   | undef=>trivial
   | val v=>obtain⟨v',e,r⟩:=h2;exact⟨v',e,(r.avoid hC).sub hw⟩
   | own l=>obtain⟨e,vs,hz,hl,r⟩:=h2;exact⟨e,vs,hz,hl,(r.avoid hC).sub hw⟩
   | ownP l=>obtain⟨e,vs,hz,hl,r⟩:=h2;exact⟨e,vs,hz,hl,(r.avoid hC).sub hw⟩
   | app r'=>
    refine ze24 h2 fun b l e1 e2 e3 e4=>?_;clear h2;refine⟨b,l,e1,e2,fun q=>?_,e4⟩;rcases hw b q with q | q
    ·exact e3 q
    ·exact(zGU hn (q▸e4)).2 _ rfl
   | cnt n=>exact h2
  wlt:=fun b hb=>by
   rcases hw b hb with h | rfl
   ·exact hR.wlt b h
   ·obtain⟨o,_,_,ho,_⟩:=hn;exact Heap.lt_size ho
  idoff:=fun n a e h=>by
   rcases hw a h with h | rfl
   ·exact hR.idoff n a e h
   ·exact hi n e}
theorem zIX {s s':Shared}{C:Addr}{m}(ht:TabOk g s.heap)(hn:s.heap.Ns C m)(hs:Heap.SameBut C s.heap s'.heap)(hP:C≠g.P):TabOk g s'.heap:=by
 refine ze13 ht fun ps hp h1 hc=>?_;clear ht;refine⟨ps,hs.extBut _ _ (Ne.symm hP) hp,h1,fun pos cv e=>?_⟩;refine ze24 (hc pos cv e) fun c q z4 e2 e3 z5=>?_;subst z4;refine ze44 z5 fun c' o vs' t e5 ho hd r=>?_;clear z5;cases e5;refine⟨c,q,rfl,e2,e3,c,o,vs',t,rfl,hs.extBut _ _ (fun h=>?_) ho,hd,r⟩;exact(zGU hn (h▸ho)).2 _ hd
theorem Rel.gone {ids Wo env vm gh η kp}{s:Shared}{h':Heap}{C:Addr}{m}(hR:Rel g ids Wo env vm gh η kp s)(hn:s.heap.Ns C m)(hO:¬Own env gh η C)(hi:∀ n:Nat,ids[n]?≠some C)(hP:C≠g.P)(hk:kp C=none)(h0:g.h0.get? C=none)
  (hs:Heap.SameBut C s.heap h'):Rel g ids Wo env vm gh η kp {s with heap:=h'}:=
 ((hR.avoid hn hO hi).touch (s':={s with heap:=h'}) (fun b=>b=C) (fun b hb=>by subst hb;exact⟨.inr rfl,hO,hP,hk,h0⟩) (fun b o hb e=>hs.extBut b o hb e) (Nat.le_of_eq hs.1.symm) (fun h=>h) rfl (zznlr _) (zIX hR.tab hn hs hP)).less fun b h=>.inl h
theorem SimN.e {e f}(h:SimN g j fs e f):SimE g j fs e (fun η=>(f η).map .lst):=by
 intro A ids Wo env gh η kp s x hA hE hR hx;refine ze12 (Option.map_eq_some_iff.mp hx) fun xs hf z6=>?_;subst z6;refine zzwqm (h A ids Wo env gh η kp s xs hA hE hR hf) (fun v s₁ q=>?_) fun _x _x h=>h;refine ze02 q fun e1 z0=>?_;clear q;refine ze25 z0 fun a vs hv hz hl hx r=>?_;clear z0;subst hv;exact⟨e1,.lst a vs xs hx hl.isList (fun q=>absurd (hR.wlt a q) (Nat.not_lt.mpr hz)) (r.sub fun b q=>.inl q)⟩
variable {elt target iter:Expr} {ifs:List Expr} {sc:Scope} {pos:Pos} {L:List Nat} {fi:List Slot→Option (List V)} {tg:V→List Slot→Option (List Slot)} {ts:List Slot→Option Bool} {fe:List Slot→Option V}
theorem zH9 {η ys}(hx:compF L fi tg ts fe η=some ys):ys.length≤sizeLine:=
 let ⟨_,_,_,h,hx⟩:=zGw hx
 zznlt (zIa hx) h
theorem SimN.comp (hs:Src g j fs iter fi)(hc:zBU fs fsC sc L)(ht:zBi g j fsC target tg)(hW:∀ η x η1,(∀ i∈L,η[i]? = some Slot.undef)→tg x η=some η1→Weak η1 η)(hi:zAT g j fsC ifs ts)(he:SimE g j fsC elt fe)
  (hf:∀ env x,foldedSetIterable iter env x=pure x):SimN g j fs (.ListComp elt [⟨target,iter,ifs,0⟩] sc pos) (compF L fi tg ts fe):=by
 intro A ids Wo env gh η kp s ys hA hE hR hx;rw[eval_ListComp];refine zGv (use:=none) hs hc ht hW hi he hf hA hE hR hx ?_;intro s' C D vs e' hC hD hne hCl hDl ⟨m,hn⟩ hl r h' hs';have hP:C≠g.P:=fun h=>by obtain⟨ps,hp,_⟩:=hR.tab;exact zAf hC _ (h▸hp)
 refine⟨e'.touch (s₂:={s' with heap:=h'}) (fun b=>b=C) (fun b hb=>hb▸hC) (fun b o hb _x e=>hs'.extBut b o hb e) (zIX (e'.tab hR.tab) hn hs' hP) (Nat.le_of_eq hs'.1.symm) (fun h=>h) rfl (zznlr _),D,vs,rfl,hD,hl.at fun o e=>hs'.extBut _ _ (Ne.symm hne) e,?_,?_⟩
 ·exact zH9 hx
 ·refine(r.keeps (h':=h') fun b o hb e=>hs'.extBut b o (fun h=>hb (.inr (.inl h))) e).sub fun b q=>?_;rcases q with q | q
  ·exact .inl q
  ·exact .inr (.inr q)
theorem zHt {elt gens sc pos t tp line env}:swapsWith (.ListComp elt gens sc pos) (some (.Name t tp)) line env=pure (env.blockKind==.function&&env.kindOf t==some .local&&tp.line==pos.line&&!(sc.names.any fun (n,k)=>n==t&&(k==.local||k==.cell))):=rfl
theorem zLs {env:Env}(hE:EnvOk fs env):env.blockKind=.function:=by
 unfold Env.blockKind;rw[hE.kind];rfl
theorem zIn {elt gens sc pos t tp line}(hk:zAj fs.scope t=some .local)(hl:(tp.line==pos.line)=true)(hn:(sc.names.any fun (n,k)=>n==t&&(k==.local||k==.cell))=false){env}(hE:EnvOk fs env):
  swapsWith (.ListComp elt gens sc pos) (some (.Name t tp)) line env=pure true:=by
 rw[zHt,zLs hE,hl,hn];have:env.kindOf t=some .local:=by unfold Env.kindOf;rw[hE.scope];exact hk
 rw[this];rfl
theorem zAU {elt gens sc pos t tp line}(hk:zAj fs.scope t=some .cell∨(tp.line==pos.line)=false∨(sc.names.any fun (n,k)=>n==t&&(k==.local||k==.cell))=true){env}(hE:EnvOk fs env):
  swapsWith (.ListComp elt gens sc pos) (some (.Name t tp)) line env=pure false:=by
 rw[zHt];rcases hk with hk | hk | hk
 ·have:env.kindOf t=some .cell:=by unfold Env.kindOf;rw[hE.scope];exact hk
  rw[this];have e:(some NameKind.cell==some NameKind.local)=false:=rfl;rw[e,Bool.and_false,Bool.false_and,Bool.false_and]
 ·rw[hk,Bool.and_false,Bool.false_and]
 ·rw[hk];simp
theorem zPr {x:Str}{i:Nat}{e:Expr}{p pos f}(he:SimE g j fs e f)(hv:fs.vm x=some i)(hsw:∀ env,EnvOk fs env→swapsWith e (some (.Name x p)) pos.line env=pure false):
  Sim1 g j fs (.Assign [.Name x p] e pos) (asg f i):=by
 intro A ids Wo env gh η kp s o η' hA hE hR hx;refine zbd hx fun v hf hx=>?_;cases hx;refine wpAny_Assign_Name (zzwqm (he A ids Wo env gh η kp s v hA hE hR hf) (fun a s₁ q=>?_) fun _x _x h=>h) (hsw env hE);refine ze02 q fun e1 r1=>?_;clear q;exact zzwqm (zBt hE hR e1 hv r1) (fun _x s₂ h=>stored h) fun _x _x h=>h
theorem Sim1.comp {x:Str}{i:Nat}{p spos}(own:Bool)(hs:Src g j fs iter fi)(hc:zBU fs fsC sc L)(ht:zBi g j fsC target tg)(hW:∀ η x η1,(∀ i∈L,η[i]? = some Slot.undef)→tg x η=some η1→Weak η1 η)
  (hi:zAT g j fsC ifs ts) (he:SimE g j fsC elt fe) (hv:fs.vm x=some i) (hk:zAj fs.scope x=some .local)
  (hl:(p.line==pos.line)=true) (hno:(sc.names.any fun (n,k)=>n==x&&(k==.local||k==.cell))=false) (hf:∀ env x,foldedSetIterable iter env x=pure x):
  Sim1 g j fs (.Assign [.Name x p] (.ListComp elt [⟨target,iter,ifs,0⟩] sc pos) spos) (fun η=>(compF L fi tg ts fe η).bind fun ys=>some (.next,setS η i (if own=true then .own ys else .val (.lst ys)))):=by
 intro A ids Wo env gh η kp s o η' hA hE hR hx;refine zbd hx fun ys hys hx=>?_;cases hx;have hkl:env.kindOf x=some .local:=by unfold Env.kindOf;rw[hE.scope];exact hk
 rw[exec_Assign_Name_used _ _ _ _ (zIn hk hl hno hE)];refine zzwqb (wpAny_standAt (zzwqb ?_));show wpAny _ A (do let _ ←comprehension (.ListComp elt [⟨target,iter,ifs,0⟩] sc pos) sc env _ (newList []) false (eval iter env) (some (PySem.assign (.Name x p) env))) _ _ s;refine zzwqb (zGv (use:=some (PySem.assign (.Name x p) env)) (Q:=fun _x s'=>wpAny (model g.prog g.w) A (pure PUnit.unit) (fun _x s₁=>wpAny (model g.prog g.w) A (pure Flow.next) (PS g ids Wo env fs.vm kp s .next (setS η i (if own=true then .own ys else .val (.lst ys)))) Fl s₁) Fl s') hs hc ht hW hi he hf hA hE hR hys ?_);intro s' C D vs e' hC hD hne hCl hDl ⟨m,hn⟩ hl r;have hP:C≠g.P:=fun h=>by obtain⟨ps,hp,_⟩:=hR.tab;exact zAf hC _ (h▸hp)
 have hLC:C≠env.locals:=fun h=>by obtain⟨o,_,_,ho,_⟩:=hR.ns;exact zAf hC _ (h▸ho)
 have hkC:kp C=none:=by cases q:kp C with | none=>rfl | some o=>exact absurd (hR.keep C o q) (zAf hC o)
 have h0C:g.h0.get? C=none:=by cases q:g.h0.get? C with | none=>rfl | some o=>exact absurd (hR.keep0 C o q) (zAf hC o)
 have hiC:∀ n:Nat,ids[n]?≠some C:=fun n h=>by obtain⟨o,ho,_⟩:=hR.idok.there n C h;exact zAf hC o ho
 have hOC:¬Own env gh η C:=fun h=>absurd (hR.ownLt h) (Nat.not_lt.mpr hC);have hi':i<η.length:=by obtain⟨_,sl0,h0,_⟩:=hR.var x i hv;exact(List.getElem?_eq_some_iff.mp h0).1
 have post:∀ (s'':Shared) (gh':Gh) (sl:Slot) (a:Addr),gh'.adr=(fun k=>if k=i then a else gh.adr k)→(∀ l,sl.owned? = some l→a≠C)→Rel g ids Wo env fs.vm gh' (setS η i sl) kp s''→s.heap.objs.size≤s''.heap.objs.size→(∀ b o,b≠env.locals→s'.heap.get? b=some o→s''.heap.get? b=some o)→
   ∃ m,s''.heap.Ns C m∧∀ h',Heap.SameBut C s''.heap h'→wpAny (model g.prog g.w) A (pure PUnit.unit) (fun _x s₁=>wpAny (model g.prog g.w) A (pure Flow.next) (PS g ids Wo env fs.vm kp s .next (setS η i sl)) Fl s₁) Fl {s'' with heap:=h'}:=by
  intro s'' gh' sl a ha hal hR'' hz hk;have hn'':s''.heap.Ns C m:=hn.at' fun o e=>hk _ o hLC e;refine⟨m,hn'',fun h' hs'=>zzwqp (zzwqp ⟨ids,gh',fun _x _x e=>e,hR''.gone hn'' (fun h=>?_) hiC hP hkC h0C hs',trivial,by show s.heap.objs.size≤h'.objs.size;rw[hs'.1];exact hz⟩)⟩;have h2:Own env ⟨gh'.m,gh'.cm,fun k=>if k=i then a else gh.adr k⟩ (setS η i sl) C:=by rw[←ha];exact h
  rcases zB6 hi' h2 with h | ⟨h,l,hl⟩
  ·exact hOC h
  ·exact hal l hl h.symm
 have hlen:=zH9 hys;cases own with
 | true=>
  refine wpAny_assign_Name (zzwqm (zEK (xs:=ys) hE hR e' hv hD hl hlen (r.sub fun b q=>q.elim .inl fun q=>.inr (.inr q))) (fun _x s'' q=>?_) fun _x _x h=>h);refine ze14 q fun gh' ha hR'' hz hk=>?_;clear q;exact post s'' gh' (.own ys) D ha (fun _x _x=>Ne.symm hne) hR'' hz (hk hkl)
 | false=>
  have rD:R ids s'.heap (Wt g Wo env gh η) (.ref D) (.lst ys):=.lst D vs ys hlen hl.isList (fun q=>absurd (hR.wlt D q) (Nat.not_lt.mpr hD)) (r.sub fun b q=>.inl q);refine wpAny_assign_Name (zzwqm (zBs hE hR e' hv rD) (fun _x s'' q=>?_) fun _x _x h=>h);refine ze14 q fun gh' ha hR'' hz hk=>?_;clear q;exact post s'' gh' (.val (.lst ys)) (gh.adr i) (ha.trans (by funext k;split<;>simp[*])) (fun _x h=>by exact noneE h) hR'' hz (hk hkl)
end
section
variable {g:GC} {j:Nat} {fs fsC:FS}
noncomputable def ownL (η:List Slot)(i:Nat):Option (List V):=(η[i]?).bind Slot.owned?
noncomputable def Slot.put (sl:Slot)(l:List V):Slot:=match sl with
 | .own _=>.own l
 | .ownP _=>.ownP l
 | s=>s
noncomputable def updL (η:List Slot)(i:Nat)(l:List V):List Slot:=match η[i]? with
 | some sl=>η.set i (sl.put l)
 | none=>η
theorem Slot.put_owned {sl:Slot}{l l':List V}(h:sl.owned? = some l):(sl.put l').owned? = some l':=by
 cases sl<;>simp_all[Slot.put,Slot.owned?]
theorem zCq {η:List Slot}{i:Nat}{l l':List V}(h:ownL η i=some l):∃ sl,η[i]? = some sl∧sl.owned? = some l∧updL η i l'=η.set i (sl.put l'):=by
 refine zbd h fun sl h1 h2=>?_;exact⟨sl,h1,h2,by unfold updL;rw[h1]⟩
theorem Rel.mutG {ids Wo env vm gh η kp}{s s':Shared}{i:Nat}{l l':List V}{vs':List Value}{sl sl':Slot}(hR:Rel g ids Wo env vm gh η kp s)(h1:η[i]? = some sl)(h2:sl.owned? = some l)(h3:sl'.owned? = some l')(hPP:(∃ m,sl=.ownP m)→∃ m,sl'=.ownP m)(hs:Heap.SameBut (gh.adr i) s.heap s'.heap)
  (hl:s'.heap.PlainList (gh.adr i) vs'.toArray) (r:RL ids s.heap (Wt g Wo env gh η) vs' l') (hz:l'.length≤sizeLine) (hg:s'.gens=s.gens) (ho:s'.os=s.os) (ht:s.toks≤s'.toks) (hold:∃ vs,s.heap.PlainList (gh.adr i) vs):
  Rel g ids Wo env vm gh (η.set i sl') kp s':=by
 have hilt:i<η.length:=(List.getElem?_eq_some_iff.mp h1).1;have gi:(η.set i sl')[i]? = some sl':=by simp[hilt]
 have gk:∀ k,k≠i→(η.set i sl')[k]? = η[k]?:=fun k hk=>List.getElem?_set_ne (Ne.symm hk)
 have oo:∀ (k:Nat) (s0:Slot) (m:List V),(η.set i sl')[k]? = some s0→s0.owned? = some m→∃ s1 m1,η[k]? = some s1∧s1.owned? = some m1:=fun k s0 m q1 q2=>by
  by_cases hk:k=i
  ·subst hk;exact⟨sl,l,h1,h2⟩
  ·rw[gk k hk] at q1;exact⟨s0,m,q1,q2⟩
 have hOwn:∀ b,Own env gh (η.set i sl') b↔Own env gh η b:=fun b=>by
  unfold Own;refine or_congr Iff.rfl (or_congr Iff.rfl ⟨?_,?_⟩)
  ·rintro ⟨k,s0,m,q1,q2,q3⟩
   refine ze22 (oo k s0 m q1 q2) fun s1 m1 q4 q5=>?_;exact⟨k,s1,m1,q4,q5,q3⟩
  ·rintro ⟨k,s0,m,q1,q2,q3⟩
   by_cases hk:k=i
   ·subst hk;exact⟨k,_,l',gi,h3,q3⟩
   ·exact⟨k,s0,m,(gk k hk).trans q1,q2,q3⟩
 have hWt:∀ b,Wt g Wo env gh (η.set i sl') b↔Wt g Wo env gh η b:=fun b=>or_congr Iff.rfl (or_congr Iff.rfl (hOwn b));have hO:Own env gh η (gh.adr i):=.inr (.inr ⟨i,sl,l,h1,h2,rfl⟩);have hW:Wt g Wo env gh η (gh.adr i):=.inr (.inr hO);refine ze03 (hR.off _ hO) fun hk0 h00 hP0=>?_;have up:∀ b o,b≠gh.adr i→s.heap.get? b=some o→s'.heap.get? b=some o:=fun b o hb e=>hs.extBut b o hb e;have hx:HExt (Wt g Wo env gh η) s.heap s'.heap:=fun b o hb e=>up b o (fun h=>hb (h▸hW)) e;refine ze11 hold fun vs0 hold=>?_;refine
  {keep0:=fun b o e=>up b o (fun h=>by rw[h,h00] at e;exact noneE e) (hR.keep0 b o e)
   keep:=fun b o e=>up b o (fun h=>by rw[h,hk0] at e;exact noneE e) (hR.keep b o e)
   tab:=zE8 hR.tab hold hs hP0
   gens:=hg▸hR.gens
   os:=ho.trans hR.os
   ns:=hR.ns.sameBut hs (Ne.symm (hR.adrL i sl l h1 h2))
   cell:=fun x c e=>(hR.cell x c e).sameBut hs (Ne.symm (hR.adrC i sl l h1 h2 x c e))
   capart:=hR.capart
   lcell:=hR.lcell
   adrL:=fun k s0 m q1 q2=>let ⟨s1,m1,q4,q5⟩:=oo k s0 m q1 q2;hR.adrL k s1 m1 q4 q5
   adrC:=fun k s0 m q1 q2=>let ⟨s1,m1,q4,q5⟩:=oo k s0 m q1 q2;hR.adrC k s1 m1 q4 q5
   adrA:=fun k s0 m k2 s02 m2 q1 q2 q3 q4=>let ⟨s1,m1,q5,q6⟩:=oo k s0 m q1 q2;let ⟨s12,m12,q7,q8⟩:=oo k2 s02 m2 q3 q4;hR.adrA k s1 m1 k2 s12 m12 q5 q6 q7 q8
   adrWo:=fun k s0 m q1 q2=>let ⟨s1,m1,q4,q5⟩:=oo k s0 m q1 q2;hR.adrWo k s1 m1 q4 q5
   off:=fun b hb=>hR.off b ((hOwn b).mp hb)
   offP:=hR.offP
   var:=fun x k hxk=>?_
   vinj:=hR.vinj
   cnt:=fun k n q1=>by
    by_cases hk:k=i
    ·subst hk;rw[gi] at q1;cases q1;exact noneE h3
    ·rw[gk k hk] at q1;exact hR.cnt k n q1
   idok:=⟨fun n a e=>by
    refine ze12 (hR.idok.there n a e) fun o q1 q2=>?_;exact⟨o,up a o (fun h=>hR.idoff n a e (h▸hW)) q1,q2⟩,hR.idok.nodup⟩
   wlt:=fun b hb=>by rw[hs.1];exact hR.wlt b ((hWt b).mp hb)
   tk:=zznlv hR.tk ht
   idoff:=fun n a e hb=>hR.idoff n a e ((hWt a).mp hb)}
 refine ze02 (hR.var x k hxk) fun hr z1=>?_;refine ze12 z1 fun s0 q1 q2=>?_;clear z1;refine⟨hr,?_⟩;have hw:∀ b o,s.heap.get? b=some o→¬Wt g Wo env gh η b→¬Wt g Wo env gh (η.set i sl') b:=fun b _x _x hn h=>hn ((hWt b).mp h);by_cases hk:k=i
 ·subst hk;rw[h1] at q1;cases q1;have r':RL ids s'.heap (Wt g Wo env gh (η.set k sl')) vs' l':=r.mono (fun _x _x e=>e) hx hw;refine⟨_,gi,?_⟩;have e:valOf env gh x=some (.ref (gh.adr k)):=by
   cases sl with
   | own m=>exact q2.1
   | ownP m=>exact q2.1
   | _=>exact noneE h2
  cases sl' with
  | own m=>cases h3;exact⟨e,vs',hz,hl,r'⟩
  | ownP m=>cases h3;exact⟨e,vs',hz,hl,r'⟩
  | _=>exact noneE h3
 ·refine⟨s0,(gk k hk).trans q1,?_⟩;have q3:=q2.mono hx hw (fun m hm o e=>up _ o (fun h=>hk (hR.adrA k s0 m i sl l q1 hm h1 h2 h)) e);cases s0 with
  | app r2=>
   refine ze24 q3 fun b m e1 e2 e3 e4=>?_;clear q3;by_cases hr2:r2=i
   ·subst hr2;rw[h1] at e2;cases e2;refine ze11 (hPP ⟨_,rfl⟩) fun m' z2=>?_;subst z2;exact⟨b,m',e1,gi,e3,e4⟩
   ·exact⟨b,m,e1,(gk r2 hr2).trans e2,e3,e4⟩
  | _=>exact q3
theorem Rel.mut {ids Wo env vm gh η kp}{s s':Shared}{i:Nat}{l l':List V}{vs':List Value}(hR:Rel g ids Wo env vm gh η kp s)(hi:ownL η i=some l)(hs:Heap.SameBut (gh.adr i) s.heap s'.heap)
  (hl:s'.heap.PlainList (gh.adr i) vs'.toArray) (r:RL ids s.heap (Wt g Wo env gh η) vs' l') (hz:l'.length≤sizeLine) (hg:s'.gens=s.gens) (ho:s'.os=s.os) (ht:s.toks≤s'.toks) (hold:∃ vs,s.heap.PlainList (gh.adr i) vs):
  Rel g ids Wo env vm gh (updL η i l') kp s':=by
 refine ze13 (zCq (l':=l') hi) fun sl h1 h2 h3=>?_;rw[h3];exact hR.mutG h1 h2 (Slot.put_owned h2) (by rintro ⟨m,rfl⟩;exact⟨l',rfl⟩) hs hl r hz hg ho ht hold
theorem sizes {l:List V}{vs:List Value}{ids h W}(r:RL ids h W vs l):vs.toArray.size=l.length:=by simp[r.length]
theorem zC2 {ids Wo env gh η kp}{s:Shared}{x:Str}{i:Nat}{l:List V}(hR:Rel g ids Wo env fs.vm gh η kp s)(hv:fs.vm x=some i)(hl:ownL η i=some l):
  Reach env x∧valOf env gh x=some (.ref (gh.adr i))∧∃ vs:List Value,l.length≤sizeLine∧s.heap.PlainList (gh.adr i) vs.toArray∧RL ids s.heap (Wt g Wo env gh η) vs l:=by
 refine ze02 (hR.var x i hv) fun hr z3=>?_;refine ze12 z3 fun sl h1 h2=>?_;clear z3;refine ze13 (zCq (l':=[]) hl) fun sl' h3 h4 _=>?_;rw[h1] at h3;cases h3;refine⟨hr,?_⟩;cases sl<;>first | cases h4 | skip
 ·obtain⟨e,vs,hz,hl,r⟩:=h2;exact⟨e,vs,hz,hl,r⟩
 ·obtain⟨e,vs,hz,hl,r⟩:=h2;exact⟨e,vs,hz,hl,r⟩
noncomputable def appS (i:Nat)(f:List Slot→Option V):List Slot→Option (Out×List Slot):=fun η=>(ownL η i).bind fun l=>(f η).bind fun v=>if l.length<sizeLine then some (.next,updL η i (l++[v])) else none
theorem zIG {A:Around}{ids Wo env gh η kp}{s s₁:Shared}{i:Nat}{l:List V}{v:Value}{y:V}{Q:Value→Shared→Prop}(hR:Rel g ids Wo env fs.vm gh η kp s₁)(hl:ownL η i=some l)(hz:l.length<sizeLine)
  (hvs:∃ vs:List Value,s₁.heap.PlainList (gh.adr i) vs.toArray∧RL ids s₁.heap (Wt g Wo env gh η) vs l) (r:R ids s₁.heap (Wt g Wo env gh η) v y)
  (h:∀ s',Rel g ids Wo env fs.vm gh (updL η i (l++[y])) kp s'→s₁.heap.objs.size≤s'.heap.objs.size→Q .none s'):wpAny (model g.prog g.w) A (call (.builtin "list.append") [.ref (gh.adr i),v]) Q Fl s₁:=by
 refine ze12 hvs fun vs hp rl=>?_;clear hvs;refine wpAny_list_append_plain (hsz:=by rw[sizes rl];exact Nat.le_of_lt hz) hp fun h' hl' hs'=>?_;exact h _ (hR.mut (s':={s₁ with heap:=h'}) (vs':=vs++[v]) hl hs' (by simpa using hl') (rl.append (.cons r .nil)) (by simp;exact hz) rfl rfl (zznlr _) ⟨_,hp⟩) (Nat.le_of_eq hs'.1.symm)
theorem zB8 {env:Env}(hE:EnvOk fs env):interactive env=false:=by
 unfold interactive;rw[hE.kind];rfl
set_option tactic.hygienic true in
theorem Sim1.append {x:Str}{i:Nat}{e:Expr}{np ap pos spos f}(he:SimE g j fs e f)(hv:fs.vm x=some i)(hn:notStar e=true)(hd:(x==("__debug__":Str))=false)(hline:(ap.endLine==pos.line)=true):
  Sim1 g j fs (.Expr (.Call (.Attribute (.Name x np) "append" ap) [e] [] pos) spos) (appS i f):=by
 intro A ids Wo env gh η kp s o η' hA hE hR hx;refine zbd hx fun l hl hx=>?_;refine zbd hx fun y hf hx=>?_;split at hx
 case isFalse=>exact noneE hx
 rename_i hz;cases hx;refine ze03 (zC2 hR hv hl) fun hr hval z4=>?_;refine ze13 z4 fun vs hz' hp rl=>?_;clear z4;refine wpAny_Expr_any ?_ (zB8 hE);have htr:backTo pos (starEach [e] env)=[(false,eval e env)]:=by rw[zAa hn];rfl
 refine wpAny_Call_append rfl (by rw[htr];rfl) hline htr (wpAny_Name (zAR hE hR hr hval ?_) hd);refine ze11 hp fun n hob=>?_;clear hp;refine⟨gh.adr i,vs.toArray,rfl,⟨_,n,hob,rfl,rfl,rfl⟩,?_⟩;refine zzwqm (he A ids Wo env gh η kp s y hA hE hR hf) (fun v s₁ q=>?_) fun _x _x h=>h;refine ze02 q fun e1 r1=>?_;clear q;refine zIG (s:=s) (hR.ext e1) hl hz ⟨vs,⟨n,e1.heap _ _ (hR.off _ ?_).2.2 hob⟩,rl.keeps (e1.hext Wt_P)⟩ r1 fun s' hR' hz'=>⟨ids,gh,fun _x _x e=>e,hR',trivial,Nat.le_trans e1.size hz'⟩
 refine ze13 (zCq (l':=[]) hl) fun sl h1 h2 _=>?_;exact .inr (.inr ⟨i,sl,l,h1,h2,rfl⟩)
end
theorem zD0:isSubtype (.type "list") (.type "module")=pure false:=by rw[isSubtype_type];kernel_rfl
section
variable {prog:Program} {w:World} {A:Around} {E:Value→Shared→Prop} {s:Shared}
theorem zHi {D:Addr}{v:Value}{Q:Unit→Shared→Prop}{its:Array Value}{n:Nat}(ho:s.heap.get? D=some {cls:=.type "list",data:=.seq its n})(h:Q () s):wpAny (model prog w) A (checkBoundCall "list.append" ⟨[.ref D,v],[]⟩) Q E s:=by
 have hT:s.TypeIs (.ref D) "list":=⟨_,ho,rfl⟩
 unfold checkBoundCall;rw[show Manifest.signature? "list.append"=some ((Manifest.signature? "list.append").get (by kernel_rfl)) by simp];rw[show builtinKind "list.append"=some .method by kernel_rfl];dsimp only;rw[if_neg (by decide)];refine zzwqb (wpAny_isInstance (T:="list") (b:=false) hT zD0 ?_);rw[if_neg (by decide +kernel)];refine zzwqb (zzwqb ?_);refine wpAny_load ho ?_;refine zzwqp ?_;dsimp only;rw[if_neg (by decide)];refine zzwqb (wpAny_typeOf hT ?_);dsimp only;exact wpAny_of_eq (a:=()) (by kernel_rfl) h
theorem zID {b D:Addr}{its:Array Value}{x:Value}{Q:Value→Shared→Prop}(hb:s.heap.get? b=some {cls:=.type "builtin_function_or_method",data:=.fields #[.builtin "list.append",.ref D]})
  (hl:s.heap.PlainList D its) (hQ:∀ h',h'.PlainList D (its.push x)→Heap.SameBut D s.heap h'→Q .none {s with heap:=h'}) (hsz:its.size≤sizeLine):wpAny (model prog w) A (call (.ref b) [x]) Q E s:=by
 refine ze11 hl fun n ho=>?_;clear hl;refine wpAny_call (codeAny_of_tree ?_);show wpAny _ _ (callAny (.ref b) ⟨[x],[]⟩) _ _ s;unfold callAny;refine zzwqb (wpAny_load hb ?_);dsimp only;rw[if_pos (by decide)];refine zzwqb (zHi ho ?_);refine zzwqp ⟨by kernel_rfl,codeAny_builtin entry_list_append ?_⟩;rw[Around.under_plainId (by decide +kernel)];show wpAny _ _ (updateSeq D (·.push x) >>= fun _x=>ret .none) _ _ s;refine zzwqb ?_;refine wpAny_updateSeq ho rfl (zzwqp (hQ _ ⟨n+1,?_⟩ (Heap.SameBut.update ..)));rw[Heap.get?_update_self _ ho (by rw[Obj.mapSeq_push_plain];rfl),Obj.mapSeq_push_plain]
end
theorem zGW:PySem.Slot "method_descriptor" "__get__" "method_descriptor.__get__":=
 .of (owner:="method_descriptor") (n:="__get__") (by rw[typeLookup_type,builtinLookup_eq_fast];kernel_rfl) (by decide +kernel) (by decide +kernel) (by decide +kernel)
  (by first | exact .inl (by decide +kernel) | exact .inr (by decide +kernel)) (by rw[isSubtype_type];kernel_rfl)
theorem zKY:entryFor table "method_descriptor.__get__"=some Builtin.«method_descriptor.__get__»:=entryFor_of_tree (by kernel_rfl)
theorem zMU (a b c:Value):argsOk "method_descriptor.__get__" ⟨[a,b,c],[]⟩:=by unfold argsOk;kernel_rfl
theorem zKW:typeLookup (.type "method_descriptor") "__set__"=pure none:=by rw[typeLookup_type,builtinLookup_eq_fast];kernel_rfl
theorem zKX:typeLookup (.type "method_descriptor") "__delete__"=pure none:=by rw[typeLookup_type,builtinLookup_eq_fast];kernel_rfl
theorem zMS:Manifest.toldItsClass.contains "list.append"=false:=by decide +kernel
theorem zNV:isSubtype (.type "list") (.type "list")=pure true:=by rw[isSubtype_type];kernel_rfl
section
variable {prog:Program} {w:World} {A:Around} {E:Value→Shared→Prop} {h:Heap} {g:Array GenState} {d:Drawn} {t:Nat} {os:OsState} {a:Addr} {o:Obj}
theorem zOe {R:Result→Shared→Prop}(hx:h.get? a=some o)(hc:o.cls=.type "list")
  (hq:R (.ok (.ret (.ref h.objs.size))) ⟨h.push {cls:=.type "builtin_function_or_method",data:=.fields #[.builtin "list.append",.ref a]},g,d,t,os⟩):
  codeAny (model prog w) A (.call (.builtin "method_descriptor.__get__") ⟨[.builtin "list.append",.ref a,.type "list"],[]⟩) R ⟨h,g,d,t,os⟩:=by
 have hT:(⟨h,g,d,t,os⟩:Shared).TypeIs (.ref a) "list":=⟨_,hx,hc⟩
 have hT5:(⟨h,g,d,t,os⟩:Shared).TypeIs (.builtin "list.append") "method_descriptor":=PySem.F.type_list_append;refine codeAny_call_builtin zGW.plain zKY (zGW.check _ _ _ _ _ _ _ _ hT5 (zMU _ _ _) ?_);unfold Builtin.«method_descriptor.__get__»;refine zzwqb (wpAny_of_eq (a:=(.builtin "list.append",some (.ref a),some (.type "list"))) (by first | rfl | kernel_rfl) ?_);simp only[zMS,Bool.false_eq_true,if_false];refine zzwqb (zzwqb ?_);refine wpAny_of_eq (a:=(Str.ofString "append",.type "list")) (by first | rfl | kernel_rfl) ?_;refine zzwqb (wpAny_isInstance (T:="list") (b:=true) hT zNV ?_);refine zzwqp ?_;refine zzwqb (wpAny_newObj_type (zzwqp ?_));exact hq
theorem md_ga {tk:Tok}{Q:Fin→Shared→Prop}{its:Array Value}{n:Nat}(hx:h.get? a=some {cls:=.type "list",data:=.seq its n})
  (hq:Q (.done (.ret (.ref h.objs.size))) ⟨h.push {cls:=.type "builtin_function_or_method",data:=.fields #[.builtin "list.append",.ref a]},g,d,t,os⟩):
  wpAny (model prog w) A (Builtin.«object.__getattribute__» ⟨[.ref a,.str "append" tk],[]⟩) Q E ⟨h,g,d,t,os⟩:=by
 have hT:(⟨h,g,d,t,os⟩:Shared).TypeIs (.ref a) "list":=⟨_,hx,rfl⟩
 have hT5:(⟨h,g,d,t,os⟩:Shared).TypeIs (.builtin "list.append") "method_descriptor":=PySem.F.type_list_append;have f4:=PySem.F.slot_list_append.lookup;have f5:=PySem.F.type_list_append;have f6:=zGW.lookup;have f7:=zKW;have f8:=zKX
 repeat (any_goals (first | assumption | wp_step))
 exact zOe hx rfl (zzwqp hq)
theorem zMT {Q:Value→Shared→Prop}{its:Array Value}{n:Nat}(hx:h.get? a=some {cls:=.type "list",data:=.seq its n})
  (hq:∀ t',t≤t'→Q (.ref h.objs.size) ⟨h.push {cls:=.type "builtin_function_or_method",data:=.fields #[.builtin "list.append",.ref a]},g,d,t',os⟩):
  wpAny (model prog w) A (getAttr (.ref a) "append" true) Q E ⟨h,g,d,t,os⟩:=by
 unfold getAttr;refine zzwqb (wpAny_mkText ?_);dsimp only;have hT:(⟨h,g,d,t+1,os⟩:Shared).TypeIs (.ref a) "list":=⟨_,hx,rfl⟩
 have f2:=PySem.F.slot_list_getattribute.lookup;have f3:=PySem.F.slot_list_getattribute.bind (.ref a)
 repeat (any_goals (first | assumption | wp_step))
 refine codeAny_call_builtin PySem.F.slot_list_getattribute.plain PySem.F.entry_list_ga (PySem.F.slot_list_getattribute.check _ _ _ _ _ _ _ _ hT (PySem.F.args_list_getattribute_2 _ _) (md_ga hx ?_));exact zzwqp (hq (t+1) (Nat.le_succ _))
end
section
variable {g:GC} {j:Nat} {fs fsC:FS}
theorem Rel.freeze {ids Wo env vm gh η kp}{s:Shared}{i:Nat}{l:List V}(hR:Rel g ids Wo env vm gh η kp s)(hi:ownL η i=some l)(hvi:∀ x k,vm x=some k→k=i→True):
  Rel g ids Wo env vm gh (setS η i (.val (.lst l))) kp s:=by
 refine ze13 (zCq (l':=[]) hi) fun sl h1 h2 _=>?_;have hilt:i<η.length:=(List.getElem?_eq_some_iff.mp h1).1
 have oo:∀ (k:Nat) (s0:Slot) (m:List V),(setS η i (.val (.lst l)))[k]? = some s0→s0.owned? = some m→k≠i∧η[k]? = some s0:=fun k s0 m q1 q2=>by
  by_cases hk:k=i
  ·subst hk;rw[zBc hilt] at q1;cases q1;exact noneE q2
  ·refine ze12 (zA8 hk q1) fun s1 h3 h4=>?_;rcases h4 with rfl | ⟨rfl,_⟩
   ·exact⟨hk,h3⟩
   ·exact noneE q2
 have hOwn:∀ b,Own env gh (setS η i (.val (.lst l))) b→Own env gh η b∧b≠gh.adr i:=fun b hb=>by
  rcases hb with h | ⟨x,h⟩ | ⟨k,s0,m,q1,q2,q3⟩
  ·exact⟨.inl h,fun e=>hR.adrL i sl l h1 h2 (e▸h)⟩
  ·exact⟨.inr (.inl ⟨x,h⟩),fun e=>hR.adrC i sl l h1 h2 x b h e.symm⟩
  ·refine ze02 (oo k s0 m q1 q2) fun hk q4=>?_;exact⟨.inr (.inr ⟨k,s0,m,q4,q2,q3⟩),fun e=>hk (hR.adrA k s0 m i sl l q4 q2 h1 h2 (q3.trans e))⟩
 have hWt:∀ b,Wt g Wo env gh (setS η i (.val (.lst l))) b→Wt g Wo env gh η b:=fun b hb=>by
  rcases hb with h | h | h
  ·exact .inl h
  ·exact .inr (.inl h)
  ·exact .inr (.inr (hOwn b h).1)
 have hO:Own env gh η (gh.adr i):=.inr (.inr ⟨i,sl,l,h1,h2,rfl⟩)
 have hn:¬Wt g Wo env gh (setS η i (.val (.lst l))) (gh.adr i):=fun h=>by
  rcases h with h | h | h
  ·exact hR.adrWo i sl l h1 h2 h
  ·exact(hR.off _ hO).2.2 h
  ·exact(hOwn _ h).2 rfl
 exact
  {hR with
   adrL:=fun k s0 m q1 q2=>hR.adrL k s0 m (oo k s0 m q1 q2).2 q2
   adrC:=fun k s0 m q1 q2=>hR.adrC k s0 m (oo k s0 m q1 q2).2 q2
   adrA:=fun k s0 m k2 s02 m2 q1 q2 q3 q4=>hR.adrA k s0 m k2 s02 m2 (oo k s0 m q1 q2).2 q2 (oo k2 s02 m2 q3 q4).2 q4
   adrWo:=fun k s0 m q1 q2=>hR.adrWo k s0 m (oo k s0 m q1 q2).2 q2
   off:=fun b hb=>hR.off b (hOwn b hb).1
   var:=fun x k hx=>by
    refine ze02 (hR.var x k hx) fun hr z5=>?_;refine ze12 z5 fun s0 q1 q2=>?_;clear z5;refine⟨hr,?_⟩;by_cases hk:k=i
    ·subst hk;rw[h1] at q1;cases q1;refine⟨_,zBc hilt,?_⟩;cases sl with
     | own m=>cases h2;obtain⟨e,vs,hz,hl,r⟩:=q2;exact⟨_,e,.lst _ vs l hz hl.isList hn (r.sub hWt)⟩
     | ownP m=>cases h2;obtain⟨e,vs,hz,hl,r⟩:=q2;exact⟨_,e,.lst _ vs l hz hl.isList hn (r.sub hWt)⟩
     | _=>exact noneE h2
    ·refine ze12 (zHA (sl:=.val (.lst l)) hk q1) fun s1 h3 h4=>?_;refine⟨s1,h3,?_⟩;rcases h4 with rfl | ⟨rfl,_⟩
     ·have q3:=q2.mono (W':=Wt g Wo env gh (setS η i (.val (.lst l)))) (fun _x _x _x e=>e) (fun b _x _x hn h=>hn (hWt b h)) (fun _x _x _x e=>e);cases s1 with
      | app r=>
       refine ze24 q3 fun b m e1 e2 e3 e4=>?_;clear q3;have hri:r≠i:=by
        rintro rfl
        have e5:(setS η r (.val (.lst l)))[k]? = ((η.map (kill r)).set r (.val (.lst l)))[k]?:=by unfold setS;rw[e2]
        rw[e5,List.getElem?_set_ne (Ne.symm hk),List.getElem?_map,q1] at h3;simp[kill] at h3
       exact⟨b,m,e1,zC0 hri e2,e3,e4⟩
      | _=>exact q3
     ·trivial
   cnt:=fun k n q1=>by
    by_cases hk:k=i
    ·subst hk;rw[zBc hilt] at q1;cases q1
    ·refine ze12 (zA8 hk q1) fun s0 h0 h3=>?_;rcases h3 with rfl | ⟨h4,_⟩
     ·exact hR.cnt k n h0
     ·cases h4
   wlt:=fun b hb=>hR.wlt b (hWt b hb)
   idoff:=fun n a e h=>hR.idoff n a e (hWt a h)}
noncomputable def frz (i:Nat)(F:List Slot→Option (Out×List Slot)):List Slot→Option (Out×List Slot):=fun η=>(ownL η i).bind fun l=>F (setS η i (.val (.lst l)))
theorem zQn {st F}(i:Nat)(h:Sim1 g j fs st F):Sim1 g j fs st (frz i F):=by
 intro A ids Wo env gh η kp s o η' hA hE hR hx;refine zbd hx fun l hl hx=>?_;exact h A ids Wo env gh _ kp s o η' hA hE (hR.freeze hl fun _x _x _x _x=>trivial) hx
noncomputable def Slot.own?:Slot→Option (List V)
 | .own l=>some l
 | _=>none
noncomputable def Slot.app?:Slot→Option Nat
 | .app r=>some r
 | _=>none
theorem zKz {o:Option Slot}(h:o.any Slot.isUndef=true):o=some .undef:=by
 cases o with
 | none=>cases h
 | some sl=>cases sl with
  | undef=>rfl
  | _=>cases h
theorem zN9 {o:Option Slot}{l}(h:o.bind Slot.own? = some l):o=some (.own l):=by
 cases o with
 | none=>exact noneE h
 | some sl=>cases sl with
  | own m=>cases h;rfl
  | _=>exact noneE h
theorem zOz {o:Option Slot}{l}(h:o.bind Slot.app? = some l):o=some (.app l):=by
 cases o with
 | none=>exact noneE h
 | some sl=>cases sl with
  | app m=>cases h;rfl
  | _=>exact noneE h
noncomputable def zDU (a r:Nat):List Slot→Option (Out×List Slot):=fun η=>if η[a]?.any Slot.isUndef=true then (η[r]?.bind Slot.own?).bind fun l=>if a≠r then some (.next,(η.set r (.ownP l)).set a (.app r)) else none else none
theorem zPq {x y:Str}{a r:Nat}{p np ap pos}(hx:fs.vm x=some a)(hy:fs.vm y=some r)(hd:(y==("__debug__":Str))=false):Sim1 g j fs (.Assign [.Name x p] (.Attribute (.Name y np) "append" ap) pos) (zDU a r):=by
 intro A ids Wo env gh η kp s o η' hA hE hR hx';refine ze02 (zAl hx') fun ha hx'=>?_;replace ha:=zKz ha;refine zbd hx' fun l hr hx'=>?_;replace hr:=zN9 hr;refine ze02 (zAl hx') fun hne hx'=>?_;cases hx';have hl:ownL η r=some l:=by unfold ownL;rw[hr];rfl
 refine ze03 (zC2 hR hy hl) fun hry hval z6=>?_;refine ze13 z6 fun vs hz hp rl=>?_;clear z6;have hrl:r<η.length:=(List.getElem?_eq_some_iff.mp hr).1;have hR1:Rel g ids Wo env fs.vm gh (η.set r (.ownP l)) kp s:=hR.mutG hr rfl rfl (fun ⟨m,h⟩=>by cases h) zGa hp rl hz rfl rfl (zznlr _) ⟨_,hp⟩;have ha1:(η.set r (.ownP l))[a]? = some .undef:=by rw[List.getElem?_set_ne (Ne.symm hne)];exact ha
 have hr1:(η.set r (.ownP l))[r]? = some (.ownP l):=by simp[hrl]
 have hset:setS (η.set r (.ownP l)) a (.app r)=(η.set r (.ownP l)).set a (.app r):=by unfold setS;rw[ha1]
 refine wpAny_Assign_Name ?_ rfl;refine Attribute_name (wpAny_Name (zAR hE hR hry hval ?_) hd);refine ze11 hp fun n hob=>?_;clear hp;obtain⟨hh,gg,d,t,os⟩:=s;refine zMT hob fun t' ht'=>?_;have e1:Ext g ⟨hh,gg,d,t,os⟩ (⟨hh.push {cls:=.type "builtin_function_or_method",data:=.fields #[.builtin "list.append",.ref (gh.adr r)]},gg,d,t',os⟩:Shared):=
  ⟨fun _x _x _x e=>Heap.get?_push_of_some _ e,fun x=>x.keeps fun _x _x e=>Heap.get?_push_of_some _ e,by simp[Heap.size_push],fun x=>x,rfl,ht'⟩
 have hi:a<(η.set r (.ownP l)).length:=(List.getElem?_eq_some_iff.mp ha1).1;have hbW:∀ {b},Wt g Wo env gh η b→b≠hh.objs.size:=fun h=>Nat.ne_of_lt (hR.wlt _ h);refine zzwqm (zI5 (a:=gh.adr a) hE hR1 e1 hx (sl:=.app r) (fun l q=>by exact noneE q) fun s' m' cm' T hT hs'=>?_) (fun _ s₂ ⟨gh',h,hz⟩=>⟨ids,gh',fun _x _x e=>e,hset▸h,trivial,hz⟩) fun _x _x h=>h;refine⟨hh.objs.size,l,rfl,zC0 (Ne.symm hne) hr1,fun h=>?_,?_⟩
 ·have hlt:hh.objs.size<hh.objs.size:=by
   rcases h with h | h | h
   ·exact hR1.wlt _ (.inl h)
   ·exact hR1.wlt _ (.inr (.inl h))
   ·rcases zB6 hi h with h | ⟨_,l,hl⟩
    ·exact hR1.wlt _ (.inr (.inr h))
    ·exact noneE hl
  exact Nat.lt_irrefl _ hlt
 ·have hTlt:T<hh.objs.size:=by
   rcases hT with h | ⟨y,h⟩
   ·exact hR.ownLt (.inl h)
   ·exact hR.ownLt (.inr (.inl ⟨y,h⟩))
  have hra:(if r=a then gh.adr a else gh.adr r)=gh.adr r:=by rw[if_neg (Ne.symm hne)]
  show s'.heap.get? hh.objs.size=some {cls:=.type "builtin_function_or_method",data:=.fields #[.builtin "list.append",.ref (if r=a then gh.adr a else gh.adr r)]};rw[hra];exact hs'.extBut _ _ (Ne.symm (Nat.ne_of_lt hTlt)) (Heap.get?_push_size _ rfl)
theorem Rel.own_list {ids Wo env gh η kp}{s:Shared}{i:Nat}{l:List V}(hR:Rel g ids Wo env fs.vm gh η kp s)(hl:ownL η i=some l)(hv:∃ x,fs.vm x=some i):
  ∃ vs:List Value,s.heap.PlainList (gh.adr i) vs.toArray∧RL ids s.heap (Wt g Wo env gh η) vs l:=by
 refine ze11 hv fun x hx=>?_;clear hv;refine ze03 (zC2 hR hx hl) fun _ _ z0=>?_;refine ze13 z0 fun vs _ hp rl=>?_;clear z0;exact⟨vs,hp,rl⟩
noncomputable def appC (a r:Nat)(f:List Slot→Option V):List Slot→Option (Out×List Slot):=fun η=>(η[a]?.bind Slot.app?).bind fun r'=>if r'=r then appS r f η else none
theorem zPm {x:Str}{a:Nat}{e:Expr}{np pos spos f}(he:SimE g j fs e f)(hx:fs.vm x=some a){z:Str}{r:Nat}(hz0:fs.vm z=some r)(hn:notStar e=true)(hd:(x==("__debug__":Str))=false):
  Sim1 g j fs (.Expr (.Call (.Name x np) [e] [] pos) spos) (appC a r f):=by
 intro A ids Wo env gh η kp s o η' hA hE hR hx';refine zbd hx' fun r' ha hx'=>?_;replace ha:=zOz ha;refine ze02 (zAl hx') fun hrr hx'=>?_;subst hrr;refine zbd hx' fun l hl hx'=>?_;refine zbd hx' fun y hf hx'=>?_;refine ze02 (zAl hx') fun hz hx'=>?_;cases hx';refine ze02 (hR.var x a hx) fun hrx z1=>?_;refine ze12 z1 fun sl h1 h2=>?_;clear z1;rw[ha] at h1;cases h1;refine ze24 h2 fun b l2 e1 e2 e3 e4=>?_;clear h2;have hl2:ownL η r'=some l2:=by unfold ownL;rw[e2];rfl
 rw[hl] at hl2;cases hl2;refine wpAny_Expr_any ?_ (zB8 hE);refine wpAny_Call_ofName (wpAny_Name (zAR hE hR hrx e1 ?_) hd);rw[zAa hn];refine ze13 (zCq (l':=[]) hl) fun sr h5 h6 _=>?_;have hOr:Own env gh η (gh.adr r'):=.inr (.inr ⟨r',sr,l,h5,h6,rfl⟩);refine callWith_of (P:=fun h=>h.get? b=some {cls:=.type "builtin_function_or_method",data:=.fields #[.builtin "list.append",.ref (gh.adr r')]}) (by rfl) (fun h hb=>⟨_,.inr (.inl rfl),fun A' Q' E' s' hk hq=>?_⟩) (evalArgs_plain ?_)
 ·unfold keeperOf;refine zzwqb (wpAny_load (hk _ _ hb) ?_);dsimp only;rw[if_pos (by decide),if_pos (by decide)];exact zzwqp hq
 ·refine Calls.spliced_cons (zzwqm (he A ids Wo env gh η kp s y hA hE hR hf) (fun v s₁ q=>?_) fun _x _x h=>h);refine ze02 q fun e5 r5=>?_;clear q;refine Calls.spliced_nil ⟨e5.heap _ _ (fun h=>e3 (h▸Wt_P)) e4,?_⟩;have hR5:=hR.ext e5;have:=hR5.own_list hl ⟨z,hz0⟩;refine ze12 this fun vs hp rl=>?_;clear this;refine zID (e5.heap _ _ (fun h=>e3 (h▸Wt_P)) e4) hp (fun h' hl' hs'=>?_) (by rw[sizes rl];exact Nat.le_of_lt hz);exact⟨ids,gh,fun _x _x e=>e,hR5.mut (s':={s₁ with heap:=h'}) (vs':=vs++[v]) hl hs' (by simpa using hl') (rl.append (.cons r5 .nil)) (by simp;exact hz) rfl rfl (zznlr _) ⟨_,hp⟩,trivial,Nat.le_trans e5.size (Nat.le_of_eq hs'.1.symm)⟩
end
section
variable {prog:Program} {w:World} {A:Around} {E:Value→Shared→Prop} {s:Shared}
end
section
variable {g:GC} {j:Nat} {fs fsC:FS}
theorem zIO {h:Heap}{a:Addr}{items:Array Value}{n:Nat}{f:Array Value→Array Value}(ho:h.get? a=some {cls:=.type "list",data:=.seq items n}):(h.update a (Obj.mapSeq f)).PlainList a (f items):=
 ⟨_,IsL.update (n:=n) ho f⟩
noncomputable def setL (i:Nat)(fi fv:List Slot→Option V):List Slot→Option (Out×List Slot):=fun η=>(fv η).bind fun v=>(ownL η i).bind fun l=>(fi η).bind fun k=>(asInt k).bind fun k=>(seqIndex? k l.length).bind fun n=>some (.next,updL η i (l.set n v))
theorem zHz {A:Around}{ids Wo env gh η kp}{s:Shared}{i:Nat}{l:List V}{k:Int}{n:Nat}{t:Tok}{v:Value}{y:V}{Q:Unit→Shared→Prop}(hR:Rel g ids Wo env fs.vm gh η kp s)(hl:ownL η i=some l)
  (hv:∃ x,fs.vm x=some i) (hk:seqIndex? k l.length=some n) (hlz:l.length≤sizeLine) (r:R ids s.heap (Wt g Wo env gh η) v y)
  (h:∀ s',Rel g ids Wo env fs.vm gh (updL η i (l.set n y)) kp s'→s.heap.objs.size≤s'.heap.objs.size→Q () s'):wpAny (model g.prog g.w) A (setItem (.ref (gh.adr i)) (.int k t) v) Q Fl s:=by
 refine ze12 (hR.own_list hl hv) fun vs hp rl=>?_;refine ze11 (id hp) fun q hob=>?_;have hb:=zAQ hk;have hzz:(l.length:Int)≤16777216:=by rw[sizeLine_eq] at hlz;exact zn2 hlz
 have fin:∀ m,m=n→Q () {s with heap:=s.heap.update (gh.adr i) (Obj.mapSeq (·.setIfInBounds m v))}:=fun m hm=>by
  subst hm;refine h _ (hR.mut (s':={s with heap:=s.heap.update (gh.adr i) (Obj.mapSeq (·.setIfInBounds m v))}) (vs':=vs.set m v) hl (Heap.SameBut.update ..) (by have:=zIO (f:=(·.setIfInBounds m v)) hob;simpa using this) (rl.set m r) (by simpa using hlz) rfl rfl (zznlr _) ⟨_,hp⟩) (by rw[zE4];exact zznlr _)
 by_cases h0:k<0
 ·have e:(n:Int)=k+l.length:=by simpa [h0] using hb.2.2.2
  refine ki_setBack (n:=q) hob h0 (by rw[sizes rl];(clear h0;exact zn13 e)) (by (clear h0;lia)) (fin _ ?_);rw[sizes rl];exact zn14 e
 ·have e:(n:Int)=k:=by simpa [h0] using hb.2.2.2
  refine ki_setAt (n:=q) hob (zn15 e) (by (clear e;lia)) (by rw[sizes rl];(clear hlz e;exact zn107 hb)) (fin _ (zn16 e))
theorem zPp {x:Str}{i:Nat}{e ie:Expr}{np sp pos fv fi}(he:SimE g j fs e fv)(hi:SimC g j fs ie fi)(hv:fs.vm x=some i)(hsw:∀ env,swapsWith e (some (.Subscript (.Name x np) ie sp)) pos.line env=pure false)
  (hd:(x==("__debug__":Str))=false):Sim1 g j fs (.Assign [.Subscript (.Name x np) ie sp] e pos) (setL i fi fv):=by
 intro A ids Wo env gh η kp s o η' hA hE hR hx;refine zbd hx fun y hf hx=>?_;refine zbd hx fun l hl hx=>?_;refine zbd hx fun k hk hx=>?_;refine zbd hx fun k hki hx2=>?_;cases zAS hki;refine zbd hx2 fun n hn hx=>?_;cases hx;refine wpAny_Assign_Subscript (zzwqm (he A ids Wo env gh η kp s y hA hE hR hf) (fun v s₁ q=>?_) fun _x _x h=>h) (hsw env);refine ze02 q fun e1 r1=>?_;clear q;have hR1:=hR.ext e1;refine ze03 (zC2 hR1 hv hl) fun hr hval z2=>?_;refine ze13 z2 fun vs hz' hp rl=>?_;clear z2;refine wpAny_Name (zAR hE hR1 hr hval ?_) hd;refine zzwqm (hi A ids Wo env gh η kp s₁ _ hA hE hR1 hk) (fun iv s₂ q=>?_) fun _x _x h=>h;refine ze02 q fun e2 r2=>?_;clear q;refine ze11 r2.int fun t z3=>?_;subst z3;exact zHz (hR1.ext e2) hl ⟨x,hv⟩ hn hz' (r1.keeps (e2.hext Wt_P)) fun s' hR' hz=>⟨ids,gh,fun _x _x e=>e,hR',trivial,Nat.le_trans (zznlt e1.size e2.size) hz⟩
noncomputable def augL (i:Nat)(fi fv:List Slot→Option V):List Slot→Option (Out×List Slot):=fun η=>(ownL η i).bind fun l=>(fi η).bind fun k=>(asInt k).bind fun k=>(seqIndex? k l.length).bind fun n=>(l[n]?).bind fun old=>(fv η).bind fun v=>(iopV .Add old v).bind fun w=>some (.next,updL η i (l.set n w))
theorem zPB {x:Str}{i:Nat}{e ie:Expr}{np sp pos fv fi}(hi:SimC g j fs ie fi)(he:SimC g j fs e fv)(hv:fs.vm x=some i)(hst:∀ ov iv new,augStore ie ov iv new=(do holding [new,ov,iv] (setItem ov iv new);release [new,ov,iv] [];pure .next))
  (hd:(x==("__debug__":Str))=false):Sim1 g j fs (.AugAssign (.Subscript (.Name x np) ie sp) .Add e pos) (augL i fi fv):=by
 intro A ids Wo env gh η kp s o η' hA hE hR hx;refine zbd hx fun l hl hx=>?_;refine zbd hx fun k hk hx=>?_;refine zbd hx fun k hki hx2=>?_;cases zAS hki;refine zbd hx2 fun n hn hx=>?_;refine zbd hx fun old ho hx=>?_;refine zbd hx fun y hf hx=>?_;refine zbd hx fun wv hw hx=>?_;cases hx;refine ze03 (zC2 hR hv hl) fun hr hval z4=>?_;refine ze13 z4 fun vs hz' hp rl=>?_;clear z4;refine wpAny_AugAssign_SubscriptAny (wpAny_Name (zAR hE hR hr hval ?_) hd) hst;refine zzwqm (hi A ids Wo env gh η kp s _ hA hE hR hk) (fun iv s₁ q=>?_) fun _x _x h=>h;refine ze02 q fun e1 r1=>?_;clear q;refine ze11 r1.int fun t z5=>?_;subst z5;have hR1:=hR.ext e1;refine ze12 (hR1.own_list hl ⟨x,hv⟩) fun vs1 hp1 rl1=>?_;refine ze12 (rl1.get ho) fun ov hov rov=>?_;have hb:=zAQ hn;have hzz:(l.length:Int)≤16777216:=by rw[sizeLine_eq] at hz';exact zn2 hz'
 have cont:wpAny (model g.prog g.w) A (eval e env) (fun v s₄=>wpAny (model g.prog g.w) A (inplaceOp .Add ov v) (fun new s₅=>
   wpAny (model g.prog g.w) A (setItem (.ref (gh.adr i)) (.int k t) new) (fun _x=>PS g ids Wo env fs.vm kp s .next (updL η i (l.set n wv)) .next) Fl s₅) Fl s₄) Fl s₁:=by
  refine zzwqm (he A ids Wo env gh η kp s₁ _ hA hE hR1 hf) (fun v s₂ q=>?_) fun _x _x h=>h;refine ze02 q fun e2 r2=>?_;clear q;refine zzwqm (zJS (j:=j) A ids _ s₂ ov v old y wv hA (hR1.wok.ext e2) (.ofR (rov.keeps (e2.hext Wt_P))) r2 hw) (fun c s₃ q=>?_) fun _x _x h=>h;refine ze02 q fun e3 r3=>?_;clear q;exact zHz ((hR1.ext e2).ext e3) hl ⟨x,hv⟩ hn hz' r3 fun s' hR' hz=>⟨ids,gh,fun _x _x e=>e,hR',trivial,Nat.le_trans (zznlt e1.size (zznlt e2.size e3.size)) hz⟩
 by_cases h0:k<0
 ·have e:(n:Int)=k+l.length:=by simpa [h0] using hb.2.2.2
  refine wpAny_getItem_list_neg hp1.isList h0 (by rw[sizes rl1];exact zn13 e) (by lia) (x:=ov) ?_ cont;have:(k+(vs1.toArray.size:Int)).toNat=n:=by rw[sizes rl1];exact zn14 e
  rw[this];simpa using hov
 ·have e:(n:Int)=k:=by simpa [h0] using hb.2.2.2
  refine wpAny_getItem_list hp1.isList (zn15 e) (by lia) (x:=ov) ?_ cont;have:k.toNat=n:=by exact zn16 e
  rw[this];simpa using hov
noncomputable def delS (i:Nat)(fi:List Slot→Option V):List Slot→Option (Out×List Slot):=fun η=>(ownL η i).bind fun l=>(fi η).bind fun k=>(asInt k).bind fun k=>(seqIndex? k l.length).bind fun n=>some (.next,updL η i (l.eraseIdx n))
theorem RL.erase {ids h W}:∀ {vs:List Value} {xs:List V},RL ids h W vs xs→∀ n,RL ids h W (vs.eraseIdx n) (xs.eraseIdx n)
 | [],_,r,n=>by cases r;exact .nil
 | v::vs,_,r,n=>by
  cases r with
  | cons a b=>
   cases n with
   | zero=>exact b
   | succ n=>exact .cons a (b.erase n)
theorem zQp {x:Str}{i:Nat}{ie:Expr}{np sp pos fi}(hi:SimC g j fs ie fi)(hv:fs.vm x=some i)(hd:(x==("__debug__":Str))=false):Sim1 g j fs (.Delete [.Subscript (.Name x np) ie sp] pos) (delS i fi):=by
 intro A ids Wo env gh η kp s o η' hA hE hR hx;refine zbd hx fun l hl hx=>?_;refine zbd hx fun k hk hx=>?_;refine zbd hx fun k hki hx2=>?_;cases zAS hki;refine zbd hx2 fun n hn hx=>?_;cases hx;refine ze03 (zC2 hR hv hl) fun hr hval z6=>?_;refine ze13 z6 fun vs hz' hp rl=>?_;clear z6;refine wpAny_Delete (wpAny_deleteEach_cons (wpAny_delete_Subscript (wpAny_Name (zAR hE hR hr hval ?_) hd)));refine zzwqm (hi A ids Wo env gh η kp s _ hA hE hR hk) (fun iv s₁ q=>?_) fun _x _x h=>h;refine ze02 q fun e1 r1=>?_;clear q;refine ze11 r1.int fun t z0=>?_;subst z0;have hR1:=hR.ext e1;refine ze12 (hR1.own_list hl ⟨x,hv⟩) fun vs1 hp1 rl1=>?_;have hb:=zAQ hn;have hzz:(l.length:Int)≤16777216:=by rw[sizeLine_eq] at hz';exact zn2 hz'
 have hkb:-(16777216:Int)≤k∧k<16777216:=by
  by_cases h0:k<0
  ·have e:(n:Int)=k+l.length:=by simpa [h0] using hb.2.2.2
   (clear h0 e;exact zn41 hzz hb)
  ·have e:(n:Int)=k:=by simpa [h0] using hb.2.2.2
   (clear e;exact zn41 hzz hb)
 refine wpAny_delItem_plain (k:=n) hp1 (by unfold Builtin.List.listFitsIndex;simp;(clear hz' hb hzz;exact zn108 hkb)) (by rw[sizes rl1];exact hn) (fun h' hl' hs'=>?_) (by rw[sizes rl1];exact hz');have e2:vs1.toArray.eraseIdxIfInBounds n=(vs1.eraseIdx n).toArray:=by simp
 refine wpAny_deleteEach_nil ⟨ids,gh,fun _x _x e=>e,hR1.mut (s':={s₁ with heap:=h'}) (vs':=vs1.eraseIdx n) hl hs' (e2▸hl') (rl1.erase n) ?_ rfl rfl (zznlr _) ⟨_,hp1⟩,trivial,Nat.le_trans e1.size (Nat.le_of_eq hs'.1.symm)⟩;exact zznlt (List.length_eraseIdx_le l n) hz'
end
inductive El where
 | val (v:V)
 | own (l:List V)
 deriving Inhabited
noncomputable def El.slot:El→Slot
 | .val v=>.val v
 | .own l=>.own l
inductive ELr (ids:List Addr)(h:Heap)(W:Addr→Prop):List Addr→List Value→List El→Prop
 | nil:ELr ids h W [] [] []
 | val {as v x vs es}:R ids h W v x→ELr ids h W as vs es→ELr ids h W as (v::vs) (.val x::es)
 | own {as a ws xs vs es}:h.PlainList a (List.toArray ws)→xs.length≤sizeLine→RL ids h W ws xs→a∉as→ELr ids h W as vs es→ELr ids h W (a::as) (.ref a::vs) (.own xs::es)
theorem ELr.mono {ids h h' W W'}(hh:HExt W h h')(hw:∀ b o,h.get? b=some o→¬W b→¬W' b){as vs es}(x:ELr ids h W as vs es):(∀ a∈as,∀ o,h.get? a=some o→h'.get? a=some o)→ELr ids h' W' as vs es:=by
 induction x with
 | nil=>intro _;exact .nil
 | val r q ih=>intro ha;exact .val (r.mono (fun _x _x e=>e) hh hw) (ih ha)
 | own p z r n q ih=>intro ha;exact .own (p.at fun o e=>ha _ (by simp) o e) z (r.mono (fun _x _x e=>e) hh hw) n (ih fun a h=>ha a (by simp[h]))
theorem ELr.length {ids h W}{as vs es}(x:ELr ids h W as vs es):vs.length=es.length:=by
 induction x with
 | nil=>rfl
 | val _ q ih=>simp[ih]
 | own _ _ _ _ q ih=>simp[ih]
theorem ELr.alloc {ids h W}{as vs es}(x:ELr ids h W as vs es):∀ a∈as,∃ o,h.get? a=some o:=by
 induction x with
 | nil=>intro a h;simp at h
 | val _ q ih=>exact ih
 | own p _ _ _ q ih=>
  refine ze11 p fun n e=>?_;clear p;intro a h;rcases List.mem_cons.mp h with rfl | h
  ·exact⟨_,e⟩
  ·exact ih a h
theorem ELr.append {ids h W}{as vs es bs ws fs}(x:ELr ids h W as vs es)(r2:ELr ids h W bs ws fs):(∀ a∈as,a∉bs)→ELr ids h W (as++bs) (vs++ws) (es++fs):=by
 induction x with
 | nil=>intro _;exact r2
 | val r q ih=>intro hd;exact .val r (ih hd)
 | own p z r n q ih=>
  intro hd;refine .own p z r ?_ (ih fun a h=>hd a (by simp[h]));intro h;rcases List.mem_append.mp h with h | h
  ·exact n h
  ·exact hd _ (by simp) h
theorem ELr.reverse {ids h W}{as vs es}(x:ELr ids h W as vs es):ELr ids h W as.reverse vs.reverse es.reverse:=by
 induction x with
 | nil=>exact .nil
 | val r q ih=>simpa using ih.append (.val r .nil) (by simp)
 | own p z r n q ih=>
  have:=ih.append (ELr.own p z r (by simp) .nil) (by
   intro a ha hb;simp at hb ha;exact n (hb▸ha))
  simpa using this
section
variable {g:GC} {j:Nat} {fs fsC:FS}
noncomputable def SimB (g:GC)(j:Nat)(fs:FS)(pos:Pos)(es:List Expr)(f:List Slot→Option (List El)):Prop:=
 ∀ (A:Around) (ids:List Addr) (Wo:Addr→Prop) (env:Env) (gh:Gh) (η:List Slot) (kp:Addr→Option Obj) (s:Shared) (xs:List El),
  AOk j A→EnvOk fs env→Rel g ids Wo env fs.vm gh η kp s→f η=some xs→
  wpAny (model g.prog g.w) A (spliced (backTo pos (starEach es env))) (fun vs s'=>Ext g s s'∧∃ as,(∀ a∈as,s.heap.objs.size≤a)∧ELr ids s'.heap (fun b=>Wt g Wo env gh η b∨b∈as) as vs xs) (fun _ _=>False) s
noncomputable def bCons (f:List Slot→Option El)(h:List Slot→Option (List El)):List Slot→Option (List El):=fun η=>(f η).bind fun x=>(h η).bind fun xs=>some (x::xs)
theorem SimB.nil {pos}:SimB g j fs pos [] (fun _x=>some []):=by
 intro A ids Wo env gh η kp s xs hA hE hR hx;cases hx;exact Calls.spliced_nil ⟨Ext.refl _,[],by simp,.nil⟩
theorem SimB.val {pos e es f h}(he:SimE g j fs e f)(hr:SimB g j fs pos es h)(hn:notStar e=true):SimB g j fs pos (e::es) (bCons (fun η=>(f η).map .val) h):=by
 intro A ids Wo env gh η kp s xs hA hE hR hx;refine zbd hx fun x hf hx=>?_;refine zbd hx fun ys hy hx=>?_;refine ze12 (Option.map_eq_some_iff.mp hf) fun x' hf' z1=>?_;subst z1;cases hx;rw[zAa hn];refine Calls.spliced_cons (zzwqm (he A ids Wo env gh η kp s x' hA hE hR hf') (fun v s₁ q=>?_) fun _x _x h=>h);refine ze02 q fun e1 r1=>?_;clear q;refine zzwqm (hr A ids Wo env gh η kp s₁ ys hA hE (hR.ext e1) hy) (fun vs s₂ q=>?_) fun _x _x h=>h;refine ze02 q fun e2 z2=>?_;clear q;refine ze12 z2 fun as h1 h2=>?_;clear z2;refine⟨e1.trans e2,as,fun a h=>zznlt e1.size (h1 a h),.val ?_ h2⟩;exact r1.mono (fun _x _x e=>e) (e2.hext Wt_P) fun b o ho hn h=>h.elim hn fun hb=>absurd (Heap.lt_size ho) (Nat.not_lt.mpr (h1 b hb))
theorem SimB.own {pos e es f h}(he:SimN g j fs e f)(hr:SimB g j fs pos es h)(hn:notStar e=true):SimB g j fs pos (e::es) (bCons (fun η=>(f η).map .own) h):=by
 intro A ids Wo env gh η kp s xs hA hE hR hx;refine zbd hx fun x hf hx=>?_;refine zbd hx fun ys hy hx=>?_;refine ze12 (Option.map_eq_some_iff.mp hf) fun x' hf' z3=>?_;subst z3;cases hx;rw[zAa hn];refine Calls.spliced_cons (zzwqm (he A ids Wo env gh η kp s x' hA hE hR hf') (fun v s₁ q=>?_) fun _x _x h=>h);refine ze02 q fun e1 z4=>?_;clear q;refine ze25 z4 fun a ws hv ha hp hz r1=>?_;clear z4;subst hv;refine ze11 (id hp) fun n hob=>?_;have hlt:=Heap.lt_size hob;have hR1:Rel g ids (fun b=>Wo b∨b=a) env fs.vm gh η kp s₁:=hR.more e1 (fun b h=>.inl h) fun b hb=>hb.elim .inl fun h=>.inr (h▸⟨ha,hlt⟩);have haP:a≠g.P:=fun h=>by obtain⟨ps,hq,_⟩:=hR.tab;exact zAf ha _ (h▸hq)
 have hW:∀ b,(Wt g Wo env gh η b∨b=a)→Wt g (fun b=>Wo b∨b=a) env gh η b:=fun b h=>by
  rcases h with (h | h) | h
  ·exact .inl (.inl h)
  ·exact .inr h
  ·exact .inl (.inr h)
 have hW2:∀ b,Wt g (fun b=>Wo b∨b=a) env gh η b→(Wt g Wo env gh η b∨b=a):=fun b h=>by
  rcases h with (h | h) | h
  ·exact .inl (.inl h)
  ·exact .inr h
  ·exact .inl (.inr h)
 refine zzwqm (hr A ids _ env gh η kp s₁ ys hA hE hR1 hy) (fun vs s₂ q=>?_) fun _x _x h=>h;refine ze02 q fun e2 z5=>?_;clear q;refine ze12 z5 fun as h1 h2=>?_;clear z5;refine⟨e1.trans e2,a::as,fun b h=>?_,?_⟩
 ·rcases List.mem_cons.mp h with rfl | h
  ·exact ha
  ·exact zznlt e1.size (h1 b h)
 ·refine .own (hp.at fun o e=>e2.heap _ _ haP e) hz ?_ (fun h=>absurd hlt (Nat.not_lt.mpr (h1 a h))) ?_
  ·refine r1.mono (fun _x _x e=>e) (fun b o hb e=>e2.heap b o (fun h=>hb (.inl (h▸Wt_P))) e) fun b o ho hn h=>?_;rcases h with h | h
   ·exact hn (.inl h)
   ·rcases List.mem_cons.mp h with h | h
    ·exact hn (.inr h)
    ·exact absurd (Heap.lt_size ho) (Nat.not_lt.mpr (h1 b h))
  ·refine h2.mono (fun _x _x _x e=>e) (fun b o ho hn h=>hn ?_) (fun _x _x _x e=>e);rcases h with h | h
   ·exact .inl (hW b (.inl h))
   ·rcases List.mem_cons.mp h with h | h
    ·exact .inl (hW b (.inr h))
    ·exact .inr h
noncomputable def zHk (g:GC)(env:Env)(x:Str)(t:Value→Sem Unit):Prop:=∀ (A:Around) (v:Value) (Q:Unit→Shared→Prop) (s:Shared),wpAny (model g.prog g.w) A (storeName env x v) Q Fl s→wpAny (model g.prog g.w) A (t v) Q Fl s
noncomputable def stEl:List Nat→List El→List Slot→Option (List Slot)
 | [],[],η=>some η
 | i::is,e::es,η=>stEl is es (setS η i e.slot)
 | _,_,_=>none
inductive Sts (g:GC)(fs:FS)(env:Env):List (Value→Sem Unit)→List Nat→Prop
 | nil:Sts g fs env [] []
 | cons {t ts x i is}:zHk g env x t→fs.vm x=some i→Sts g fs env ts is→Sts g fs env (t::ts) (i::is)
theorem stores {A:Around}{ids:List Addr}{Wo:Addr→Prop}{env:Env}{kp:Addr→Option Obj}(hE:EnvOk fs env){ts is}(ht:Sts g fs env ts is):∀ (as:List Addr) (vs:List Value) (es:List El) (gh:Gh) (η η':List Slot) (s:Shared),
  Rel g ids (fun b=>Wo b∨b∈as) env fs.vm gh η kp s→ELr ids s.heap (Wt g (fun b=>Wo b∨b∈as) env gh η) as vs es→
  (∀ a∈as,¬Wo a∧¬Own env gh η a∧a≠g.P∧kp a=none∧g.h0.get? a=none)→stEl is es η=some η'→
  wpAny (model g.prog g.w) A (assignInOrder ts vs) (fun _x s'=>∃ gh',Rel g ids Wo env fs.vm gh' η' kp s') Fl s:=by
 induction ht with
 | nil=>
  intro as vs es gh η η' s hR r hf hx;cases es with
  | nil=>cases hx;cases r;exact assignInOrder_nil ⟨gh,hR.less fun b h=>.inl h⟩
  | cons _ _=>exact noneE hx
 | @cons t ts x i is hst hv _ ih=>
  intro as vs es gh η η' s hR r hf hx;cases es with
  | nil=>exact noneE hx
  | cons e es=>
   have hx':stEl is es (setS η i e.slot)=some η':=hx;have hi:i<η.length:=by obtain⟨_,sl0,h0,_⟩:=hR.var x i hv;exact(List.getElem?_eq_some_iff.mp h0).1
   cases r with
   | @val _ v y vs' _ r1 r2=>
    refine assignInOrder_cons (hst A _ _ s ?_);refine zzwqm (zBs hE hR.all (Ext.refl _) hv r1) (fun _x s₂ q=>?_) fun _x _x h=>h;refine ze14 q fun gh' had h _ _=>?_;clear q;have k:=hR.kept h fun _x _x e=>e;have hb:=h.back fun b o e=>hR.kpOf e;refine ih as vs' es gh' _ η' s₂ hb (r2.mono k.1 k.2 fun a ha o e=>?_) (fun a ha=>⟨(hf a ha).1,fun hO=>?_,(hf a ha).2.2⟩) hx'
    ·exact h.keep a o (zAz.mpr ⟨⟨(hf a ha).2.1,(hf a ha).2.2.1⟩,e⟩)
    ·refine ze11 (r2.alloc a ha) fun o ho=>?_;have:=(h.off a hO).1;rw[zAz.mpr ⟨⟨(hf a ha).2.1,(hf a ha).2.2.1⟩,ho⟩] at this;cases this
   | @own as' a ws xs vs' _ p z r1 hn r2=>
    have hfa:=hf a (by simp);obtain⟨kpB,hkpB⟩:∃ kpB:Addr→Option Obj,kpB=fun b=>if b=a then none else kpAll g env gh η s.heap b:=⟨_,rfl⟩
    have kB:∀ b o,kpB b=some o↔b≠a∧kpAll g env gh η s.heap b=some o:=fun b o=>by
     rw[hkpB];by_cases hb:b=a
     ·simp[hb]
     ·simp[hb]
    have hR2:Rel g ids (fun b=>Wo b∨b∈a::as') env fs.vm gh η kpB s:=hR.all.back fun b o e=>((kB b o).mp e).2;refine assignInOrder_cons (hst A _ _ s ?_);refine zzwqm (zEJ (Wo:=fun b=>Wo b∨b∈as') (sl:=.own xs) (a:=a) hE hR2 (fun b h=>h.elim .inl fun h=>.inr (by simp[h])) hv
     (fun l hl=>⟨.inr (by simp),fun h=>h.elim hfa.1 hn,hfa.2.1,hfa.2.2.1,by rw[hkpB];simp,hfa.2.2.2.2⟩) (fun s' m' cm' T hT hs'=>⟨by simp,ws,z,?_,?_⟩)) (fun _ s₂ ⟨gh',had,h,_,_⟩=>?_) fun _x _x h=>h
    ·have haT:a≠T:=fun h=>hfa.2.1 (h▸hT.elim .inl fun h=>.inr (.inl h));simp only[if_true];exact p.at fun o e=>hs'.extBut _ _ haT e
    ·have hTW:Wt g (fun b=>Wo b∨b∈a::as') env gh η T:=.inr (.inr (hT.elim .inl fun h=>.inr (.inl h)));refine(r1.keeps (h':=s'.heap) fun b o hb e=>hs'.extBut b o (fun h=>hb (h▸hTW)) e).sub fun b hb=>?_;rcases hb with h | h | h
     ·exact .inl (h.elim .inl fun h=>.inr (by simp[h]))
     ·exact .inr (.inl h)
     ·rcases zB6 hi h with h | ⟨h,_⟩
      ·exact .inr (.inr h)
      ·exact .inl (.inr (by simp[h]))
    ·have hO':∀ b,Own env gh' (setS η i (.own xs)) b→Own env gh η b∨b=a:=fun b hb=>by
      have h2:Own env ⟨gh'.m,gh'.cm,fun k=>if k=i then a else gh.adr k⟩ (setS η i (.own xs)) b:=by rw[←had];exact hb
      rcases zB6 hi h2 with h | ⟨h,_⟩
      ·exact .inl h
      ·exact .inr h
     have hW2:∀ b,Wt g (fun b=>Wo b∨b∈as') env gh' (setS η i (.own xs)) b→Wt g (fun b=>Wo b∨b∈a::as') env gh η b:=fun b hb=>by
      rcases hb with h | h | h
      ·exact .inl (h.elim .inl fun h=>.inr (by simp[h]))
      ·exact .inr (.inl h)
      ·rcases hO' b h with h | h
       ·exact .inr (.inr h)
       ·exact .inl (.inr (by simp[h]))
     have hh:HExt (Wt g (fun b=>Wo b∨b∈a::as') env gh η) s.heap s₂.heap:=fun b o hb e=>h.keep b o ((kB b o).mpr ⟨fun q=>hb (.inl (.inr (by simp[q]))),zAz.mpr ⟨⟨fun q=>hb (.inr (.inr q)),fun q=>hb (.inr (.inl q))⟩,e⟩⟩);have hkp:∀ b o,kp b=some o→kpB b=some o:=fun b o e=>(kB b o).mpr ⟨fun q=>(by rw[q,hfa.2.2.2.1] at e;exact noneE e),hR.kpOf e⟩;refine ih as' vs' es gh' _ η' s₂ (h.back hkp) (r2.mono hh (fun b o _x hb q=>hb (hW2 b q)) fun b hb o e=>?_) (fun b hb=>⟨(hf b (by simp[hb])).1,fun hO=>?_,(hf b (by simp[hb])).2.2⟩) hx'
     ·exact h.keep b o ((kB b o).mpr ⟨fun q=>hn (q▸hb),zAz.mpr ⟨⟨(hf b (by simp[hb])).2.1,(hf b (by simp[hb])).2.2.1⟩,e⟩⟩)
     ·rcases hO' b hO with h | h
      ·exact(hf b (by simp[hb])).2.1 h
      ·exact hn (h▸hb)
end
section
variable {g:GC} {j:Nat} {fs fsC:FS}
theorem zF6 {env:Env}{x:Str}:zHk g env x (fun v=>bindName env x v):=fun _x _x _x _x h=>wpAny_bindName h
theorem zEx {env:Env}{x:Str}{p}:zHk g env x (PySem.assign (.Name x p) env):=fun _x _x _x _x h=>wpAny_assign_Name h
theorem zI4 {env:Env}{es is}(h:namesOk fs es is):Sts g fs env (es.map fun e=>PySem.assign e env) is:=by
 induction h with
 | nil=>exact .nil
 | cons hv _ ih=>exact .cons zEx hv ih
theorem zIo {env:Env}{ts is us ks}(h:Sts g fs env ts is)(r:Sts g fs env us ks):Sts g fs env (ts++us) (is++ks):=by
 induction h with
 | nil=>exact r
 | cons a b _ ih=>exact .cons a b ih
inductive strsOk (fs:FS):List Str→List Nat→Prop
 | nil:strsOk fs [] []
 | cons {x:Str} {i:Nat} {xs:List Str} {is:List Nat}:fs.vm x=some i→strsOk fs xs is→strsOk fs (x::xs) (i::is)
theorem zKG {xs is}(h:strsOk fs xs is):xs.length=is.length:=by
 induction h with
 | nil=>rfl
 | cons _ _ ih=>simp[ih]
theorem zMs {env:Env}{xs is}(h:strsOk fs xs is):Sts g fs env (xs.reverse.map fun n=>(fun v=>bindName env n v)) is.reverse:=by
 induction h with
 | nil=>exact .nil
 | @cons x i xs is h _ ih=>
  have:=zIo ih (.cons (zF6 (env:=env) (x:=x)) h .nil);simpa using this
theorem zGd {A:Around}{ids:List Addr}{Wo:Addr→Prop}{env gh η kp}{s:Shared}{vs:List Expr}{p2:Pos}{c2}{fb}{els:List El}{Q:Value→Shared→Prop}(hA:AOk j A)(hE:EnvOk fs env)(hR:Rel g ids Wo env fs.vm gh η kp s)
  (hb:SimB g j fs p2 vs fb) (hx:fb η=some els) (hlen:els.length≤1000)
  (h:∀ (s₂:Shared) (T:Addr) (ws:List Value) (as:List Addr),Ext g s s₂→IsTup s₂.heap T ws.toArray→(∀ a∈as,s.heap.objs.size≤a)→ELr ids s₂.heap (fun b=>Wt g Wo env gh η b∨b∈as) as ws els→Q (.ref T) s₂):
  wpAny (model g.prog g.w) A (eval (.Tuple vs c2 p2) env) Q Fl s:=by
 refine Tuple_ (zzwqm (hb A ids Wo env gh η kp s els hA hE hR hx) (fun ws s₁ q=>?_) fun _x _x h=>h);refine ze02 q fun e1 z6=>?_;clear q;refine ze12 z6 fun as h1 h2=>?_;clear z6;have hz:ws.length≤sizeLine:=by rw[h2.length,sizeLine_eq];exact zznlt hlen (zznal _ _)
 refine wpAny_newTuple (h _ _ ws as (e1.trans (Ext.push _)) ⟨_,Heap.get?_push_size _ rfl,rfl,0,rfl⟩ h1 ?_) hz;exact h2.mono (fun _x _x _x e=>Heap.get?_push_of_some _ e) (fun _x _x _x h=>h) (fun _x _x _x e=>Heap.get?_push_of_some _ e)
theorem zGc {A:Around}{ids:List Addr}{Wo:Addr→Prop}{env gh η η' kp}{s s₂:Shared}{ws:List Value}{as:List Addr}{els:List El}{ts is}{Q:Unit→Shared→Prop}(hE:EnvOk fs env)(hR:Rel g ids Wo env fs.vm gh η kp s)
  (e:Ext g s s₂) (h1:∀ a∈as,s.heap.objs.size≤a) (h2:ELr ids s₂.heap (fun b=>Wt g Wo env gh η b∨b∈as) as ws els) (ht:Sts g fs env ts is) (hx:stEl is els η=some η')
  (h:∀ s' gh',Rel g ids Wo env fs.vm gh' η' kp s'→Q () s'):wpAny (model g.prog g.w) A (assignInOrder ts ws) Q Fl s₂:=by
 have hn:∀ a∈as,∀ o,s.heap.get? a≠some o:=fun a ha=>zAf (h1 a ha);refine zzwqm (stores (Wo:=Wo) (kp:=kp) hE ht as ws els gh η η' s₂ (hR.more e (fun b h=>.inl h) fun b hb=>hb.elim .inl fun hb=>.inr ⟨h1 b hb,?_⟩) ?_ (fun a ha=>⟨fun h=>absurd (hR.wlt a (.inl h)) (Nat.not_lt.mpr (h1 a ha)),fun h=>absurd (hR.ownLt h) (Nat.not_lt.mpr (h1 a ha)),?_,?_,?_⟩) hx) (fun _ s' ⟨gh',h'⟩=>h s' gh' h') fun _x _x h=>h
 ·obtain⟨o,ho⟩:=h2.alloc b hb;exact Heap.lt_size ho
 ·refine h2.mono (fun _x _x _x e=>e) (fun b o ho hn h=>hn ?_) fun _x _x _x e=>e;rcases h with (h | h) | h
  ·exact .inl (.inl h)
  ·exact .inr h
  ·exact .inl (.inr h)
 ·intro h;obtain⟨ps,hp,_⟩:=hR.tab;exact hn a ha _ (h▸hp)
 ·cases q:kp a with
  | none=>rfl
  | some o=>exact absurd (hR.keep a o q) (hn a ha o)
 ·cases q:g.h0.get? a with
  | none=>rfl
  | some o=>exact absurd (hR.keep0 a o q) (hn a ha o)
noncomputable def tupS (is:List Nat)(fb:List Slot→Option (List El)):List Slot→Option (Out×List Slot):=fun η=>(fb η).bind fun els=>if els.length≤1000 then (stEl is els η).map fun η'=>(.next,η') else none
noncomputable def tupR (is:List Nat)(fb:List Slot→Option (List El)):List Slot→Option (Out×List Slot):=fun η=>(fb η).bind fun els=>if els.length≤1000 then (stEl is.reverse els.reverse η).map fun η'=>(.next,η') else none
theorem zHw {is els η η'}(h:stEl is els η=some η'):is.length=els.length:=by
 induction is generalizing els η with
 | nil=>cases els with
  | nil=>rfl
  | cons _ _=>exact noneE h
 | cons i is ih=>cases els with
  | nil=>exact noneE h
  | cons e els=>exact congrArg Nat.succ (ih h)
set_option tactic.hygienic true in
theorem zP9 {ts vs:List Expr}{c c2 p p2 pos is fb}(hb:SimB g j fs p2 vs fb)(hn:namesOk fs ts is)(hsw:∀ env,EnvOk fs env→swappedStores [.Tuple ts c p] (.Tuple vs c2 p2) env=pure none):
  Sim1 g j fs (.Assign [.Tuple ts c p] (.Tuple vs c2 p2) pos) (tupS is fb):=by
 intro A ids Wo env gh η kp s o η' hA hE hR hx;refine zbd hx fun els hf hx=>?_;split at hx
 case isFalse=>exact noneE hx
 rename_i hlen;refine ze12 (Option.map_eq_some_iff.mp hx) fun η1 hst hx=>?_;cases hx;rw[exec_Assign_arm];refine zzwqb (wpAny_standAt ?_);refine zzwqb (zzwqp ?_);rw[if_neg (by decide)];refine zAg (zznlr _) (zznlr _) (zzwqb (zGd hA hE hR hb hf hlen fun s₂ T ws as e2 hT h1 h2=>?_));rw[hsw env hE];refine zzwqb (zzwqp ?_);show wpAny _ A (do PySem.assign (.Tuple ts c p) env (.ref T);pure Flow.next) _ _ s₂;refine zzwqb ?_;have q:=zC3 (env:=env) hn;rw[PyProof.Rows.assign_Tuple];refine zzwqb (wpAny_standAt ?_);unfold unpack;rw[q.1,q.2.1,zHw hst,←h2.length,q.2.2];refine zzwqb (wpAny_holding (zAg (zznlr _) (zznlr _) (unpackItems_tuple (items:=ws.toArray) hA.1 hT fun h' he hz hk=>?_)));have e3:Ext g s₂ {s₂ with heap:=h'}:=zB4 he hz;refine zGc hE hR (e2.trans e3) h1 (h2.mono (fun b o _x e=>he b o (Nat.ne_of_lt (Heap.lt_size e)) e) (fun _x _x _x h=>h) (fun b _x o e=>he b o (Nat.ne_of_lt (Heap.lt_size e)) e)) (zI4 hn) hst fun s' gh' hR'=>?_;exact zzwqp fun hz' _x=>⟨ids,gh',fun _x _x e=>e,hR',trivial,hz'⟩
set_option tactic.hygienic true in
theorem zQa {ts vs:List Expr}{xs:List Str}{c c2 p p2 pos is fb}(hb:SimB g j fs p2 vs fb)(hn:strsOk fs xs is)(hsw:∀ env,EnvOk fs env→swappedStores [.Tuple ts c p] (.Tuple vs c2 p2) env=pure (some xs)):
  Sim1 g j fs (.Assign [.Tuple ts c p] (.Tuple vs c2 p2) pos) (tupR is fb):=by
 intro A ids Wo env gh η kp s o η' hA hE hR hx;refine zbd hx fun els hf hx=>?_;split at hx
 case isFalse=>exact noneE hx
 rename_i hlen;refine ze12 (Option.map_eq_some_iff.mp hx) fun η1 hst hx=>?_;cases hx;rw[exec_Assign_arm];refine zzwqb (wpAny_standAt ?_);refine zzwqb (zzwqp ?_);rw[if_neg (by decide)];refine zAg (zznlr _) (zznlr _) (zzwqb (zGd hA hE hR hb hf hlen fun s₂ T ws as e2 hT h1 h2=>?_));rw[hsw env hE];refine zzwqb (zzwqp ?_);show wpAny _ A (do
  rule "assign.swapped-stores"
  let items ←unpackItems (.ref T) xs.length none
  assignInOrder (xs.reverse.map fun n=>bindName env n) items.reverse
  pure Flow.next) _ _ s₂
 refine zzwqb (wpAny_rule ?_);have hlen2:xs.length=ws.toArray.size:=by
  have:=zHw hst;simp at this;rw[zKG hn,this,←h2.length];simp
 rw[hlen2];refine zzwqb (zAg (zznlr _) (zznlr _) (unpackItems_tuple (items:=ws.toArray) hA.1 hT fun h' he hz hk=>?_));have e3:Ext g s₂ {s₂ with heap:=h'}:=zB4 he hz;refine zzwqb ?_;have h3:ELr ids h' (fun b=>Wt g Wo env gh η b∨b∈as.reverse) as.reverse ws.reverse els.reverse:=by
  refine(h2.mono (fun b o _x e=>he b o (Nat.ne_of_lt (Heap.lt_size e)) e) (fun b o _x hn h=>hn ?_) (fun b _x o e=>he b o (Nat.ne_of_lt (Heap.lt_size e)) e)).reverse;exact h.elim .inl fun h=>.inr (by simpa using h)
 refine zGc hE hR (e2.trans e3) (as:=as.reverse) (fun a ha=>h1 a (by simpa using ha)) h3 (zMs hn) hst fun s' gh' hR'=>?_;exact zzwqp fun hz' _x=>⟨ids,gh',fun _x _x e=>e,hR',trivial,hz'⟩
noncomputable def denv (fs:FS):Env:={scope:=fs.scope,locals:=0,globals:=0,cells:=[],qual:=Str.ofString "",func:=none,code:=.none,frame:=none,builtins:=0}
theorem zAr {ts v}{env:Env}(hE:EnvOk fs env):swappedStores ts v env=swappedStores ts v (denv fs):=by
 have h1:env.kindOf=(denv fs).kindOf:=by funext x;unfold Env.kindOf denv;rw[hE.scope]
 have h2:env.blockKind=(denv fs).blockKind:=by unfold Env.blockKind denv;rw[hE.scope]
 unfold swappedStores;rw[h2,h1]
end
theorem mro_object:mroOf (.type "object")=pure [.type "object"]:=by rw[mroOf_type];kernel_rfl
theorem zC4:typeLookup (.type "object") "__new__"=pure (some (.builtin "object.__new__")):=by rw[typeLookup_type,builtinLookup_eq_fast];kernel_rfl
theorem zNU:isSubtype (.type "object") (.type "object")=pure true:=by rw[isSubtype_type];kernel_rfl
theorem zFU:TypeCalled "object" "object.__new__" "object.__init__":=
 ⟨by decide +kernel,by decide +kernel,⟨_,_,mro_object⟩,madeBy_type mro_object zC4 (by decide +kernel),by decide +kernel,zNU,PySem.F.slot_object_init⟩
theorem zDY:checkTypeCall "object" ⟨[],[]⟩=pure ():=by kernel_rfl
theorem zEz:checkBuiltinCall "object.__new__" ⟨[.type "object"],[]⟩=pure ():=by kernel_rfl
theorem zJD:Bind.madeHere "object.__new__" (.type "object")=pure ():=by kernel_rfl
theorem zMM:Meets (Builtin.«object.__new__» ⟨[.type "object"],[]⟩) (fun _x R s=>R (.ok (.ret (Value.ref s.heap.objs.size))) {s with heap:=s.heap.push {cls:=.type "object",data:=.plain}}):=by
 refine Meets.of_wp fun prog w A R s h=>?_;have f1:=zJD;obtain⟨hp,g,d,tk,os⟩:=s
 repeat (any_goals (first | assumption | wp_step))
 exact⟨_,rfl,h⟩
theorem zKT {obj:Value}:Meets (Builtin.«object.__init__» ⟨[obj],[]⟩) (fun _x R s=>R (.ok (.ret .none)) s):=Meets.of_wp fun _x _x _x _x _x h=>zzwqp ⟨_,rfl,h⟩
theorem zHj {prog:Program}{w:World}{A:Around}{E:Value→Shared→Prop}{s:Shared}{Q:Value→Shared→Prop}
  (h:Q (.ref s.heap.objs.size) {s with heap:=s.heap.push {cls:=.type "object",data:=.plain}}):wpAny (model prog w) A (call (.type "object") []) Q E s:=by
 refine callType_meets (Q₁:=fun obj s₁=>obj=.ref s.heap.objs.size∧s₁={s with heap:=s.heap.push {cls:=.type "object",data:=.plain}}) zFU zDY zEz PySem.F.entry_object_new PySem.F.entry_object_init zMM ⟨rfl,rfl⟩ ?_
 rintro obj s₁ ⟨rfl,rfl⟩
 exact⟨⟨_,Heap.get?_push_size _ rfl,rfl⟩,PySem.F.args_object_init_1 _,_,zKT,rfl,h⟩
section
variable {g:GC} {j:Nat} {fs fsC:FS}
noncomputable def Slot.bump:Slot→Slot
 | .cnt n=>.cnt (n+1)
 | s=>s
noncomputable def bump (η:List Slot):List Slot:=η.map Slot.bump
noncomputable def Slot.cnt?:Slot→Option Nat
 | .cnt n=>some n
 | _=>none
noncomputable def cntN (η:List Slot):Option Nat:=η.findSome? Slot.cnt?
theorem zDi {sl:Slot}:sl.bump.owned? = sl.owned?:=by cases sl<;>rfl
theorem zKn {η:List Slot}{n:Nat}(h:cntN η=some n):∃ k:Nat,η[k]? = some (Slot.cnt n):=by
 refine ze12 (List.exists_of_findSome?_eq_some h) fun sl hm hs=>?_;refine ze11 (List.getElem?_of_mem hm) fun k hk=>?_;refine⟨k,?_⟩;cases sl<;>simp only[Slot.cnt?] at hs<;>first | cases hs | skip
 exact hk
theorem zB5 {η:List Slot}{k:Nat}{sl:Slot}:(bump η)[k]? = some sl↔∃ s0,η[k]? = some s0∧s0.bump=sl:=by
 unfold bump;rw[List.getElem?_map];exact Option.map_eq_some_iff
theorem zIe {env gh}{η:List Slot}{b:Addr}:Own env gh (bump η) b↔Own env gh η b:=by
 unfold Own;refine or_congr Iff.rfl (or_congr Iff.rfl ⟨?_,?_⟩)
 ·rintro ⟨i,sl,l,h1,h2,h3⟩
  refine ze12 (zB5.mp h1) fun s0 h4 z0=>?_;subst z0;exact⟨i,s0,l,h4,zDi▸h2,h3⟩
 ·rintro ⟨i,sl,l,h1,h2,h3⟩
  exact⟨i,sl.bump,l,zB5.mpr ⟨sl,h1,rfl⟩,zDi.trans h2,h3⟩
theorem zEt {Wo env gh}{η:List Slot}{b:Addr}:Wt g Wo env gh (bump η) b↔Wt g Wo env gh η b:=or_congr Iff.rfl (or_congr Iff.rfl zIe)
theorem zDM {ids:List Addr}{a:Addr}{n:Nat}{b:Addr}(h:ids[n]? = some b):(ids++[a])[n]? = some b:=by
 rw[List.getElem?_append_left (List.getElem?_eq_some_iff.mp h).1];exact h
theorem zGl {ids:List Addr}{a:Addr}{n:Nat}{b:Addr}(h:(ids++[a])[n]? = some b):ids[n]? = some b∨(n=ids.length∧b=a):=by
 rcases Nat.lt_trichotomy n ids.length with hn | hn | hn
 ·rw[List.getElem?_append_left hn] at h;exact .inl h
 ·subst hn;simp at h;exact .inr ⟨rfl,h.symm⟩
 ·rw[List.getElem?_eq_none (by simp;exact hn)] at h;exact noneE h
theorem Rel.newId {ids Wo env vm gh η kp}{s:Shared}{a:Addr}(hR:Rel g ids Wo env vm gh η kp s)(ho:∃ o,s.heap.get? a=some o∧o.cls≠.type "tuple")(hW:¬Wt g Wo env gh η a)(ha:a∉ids):
  Rel g (ids++[a]) Wo env vm gh (bump η) kp s:=
 have oi:∀ (i:Nat) (sl:Slot) (l:List V),(bump η)[i]? = some sl→sl.owned? = some l→∃ s0,η[i]? = some s0∧s0.owned? = some l:=fun i sl l h1 h2=>by
  refine ze12 (zB5.mp h1) fun s0 h4 z1=>?_;subst z1;exact⟨s0,h4,zDi▸h2⟩
 {hR with
  adrL:=fun i sl l h1 h2=>let ⟨s0,h3,h4⟩:=oi i sl l h1 h2;hR.adrL i s0 l h3 h4
  adrC:=fun i sl l h1 h2=>let ⟨s0,h3,h4⟩:=oi i sl l h1 h2;hR.adrC i s0 l h3 h4
  adrA:=fun i sl l k sl' l' h1 h2 h3 h4=>let ⟨s0,h5,h6⟩:=oi i sl l h1 h2;let ⟨s1,h7,h8⟩:=oi k sl' l' h3 h4;hR.adrA i s0 l k s1 l' h5 h6 h7 h8
  adrWo:=fun i sl l h1 h2=>let ⟨s0,h3,h4⟩:=oi i sl l h1 h2;hR.adrWo i s0 l h3 h4
  off:=fun b hb=>hR.off b (zIe.mp hb)
  var:=fun x i hx=>by
   refine ze02 (hR.var x i hx) fun hr z2=>?_;refine ze12 z2 fun sl h1 h2=>?_;clear z2;refine⟨hr,sl.bump,zB5.mpr ⟨sl,h1,rfl⟩,?_⟩;have hw:∀ b o,s.heap.get? b=some o→¬Wt g Wo env gh η b→¬Wt g Wo env gh (bump η) b:=fun b _x _x hn h=>hn (zEt.mp h);cases sl with
   | undef=>trivial
   | val v=>obtain⟨v',e,r⟩:=h2;exact⟨v',e,r.mono (fun _x _x e=>zDM e) (fun _x _x _x e=>e) hw⟩
   | own l=>obtain⟨e,vs,hz,hl,r⟩:=h2;exact⟨e,vs,hz,hl,r.mono (fun _x _x e=>zDM e) (fun _x _x _x e=>e) hw⟩
   | ownP l=>obtain⟨e,vs,hz,hl,r⟩:=h2;exact⟨e,vs,hz,hl,r.mono (fun _x _x e=>zDM e) (fun _x _x _x e=>e) hw⟩
   | app r=>obtain⟨b,l,e1,e2,e3,e4⟩:=h2;exact⟨b,l,e1,zB5.mpr ⟨_,e2,rfl⟩,fun h=>e3 (zEt.mp h),e4⟩
   | cnt n=>have:=hR.cnt i n h1;show n+1=(ids++[a]).length;simp[this]
  cnt:=fun i n h1=>by
   refine ze12 (zB5.mp h1) fun s0 h4 h5=>?_;cases s0<;>simp only[Slot.bump] at h5<;>first | cases h5 | skip
   have:=hR.cnt i _ h4;simp[this]
  idok:=⟨fun n b e=>by
   rcases zGl e with e | ⟨_,rfl⟩
   ·exact hR.idok.there n b e
   ·exact ho,by
   rw[List.nodup_append];exact⟨hR.idok.nodup,by simp,fun b hb c hc=>by simp at hc;rw[hc];exact fun h=>ha (h▸hb)⟩⟩
  wlt:=fun b hb=>hR.wlt b (zEt.mp hb)
  idoff:=fun n b e h=>by
   rcases zGl e with e | ⟨_,rfl⟩
   ·exact hR.idoff n b e (zEt.mp h)
   ·exact hW (zEt.mp h)}
theorem zEs {A:Around}{E:Value→Shared→Prop}{s:Shared}{pos:Pos}{f:Value}{first:List Value}{Q:Value→Shared→Prop}(hf:∀ a,f≠.ref a)
  (h:wpAny (model g.prog g.w) A (call f (first++[])) Q E s):wpAny (model g.prog g.w) A (callWith pos f first [] []) Q E s:=by
 refine callWith_of (P:=fun _x=>True) rfl (fun h _x=>⟨_,.inr (.inl rfl),zDu hf h⟩) (evalArgs_nil3 ⟨trivial,h⟩)
noncomputable def newS (i:Nat):List Slot→Option (Out×List Slot):=fun η=>(cntN η).bind fun n=>some (.next,setS (bump η) i (.val (.obj n)))
theorem zPA (B:Bs g){x:Str}{i:Nat}{p np cp pos}(hk:zAj fs.scope "object"=some .globalImplicit)(hv:fs.vm x=some i):Sim1 g j fs (.Assign [.Name x p] (.Call (.Name "object" np) [] [] cp) pos) (newS i):=by
 intro A ids Wo env gh η kp s o η' hA hE hR hx;refine zbd hx fun n hn hx=>?_;cases hx;refine ze11 (zKn hn) fun k hk2=>?_;have hnl:=hR.cnt k n hk2;subst hnl;refine wpAny_Assign_Name ?_ rfl;refine wpAny_Call_ofName (wpAny_Name (zAH B.ok hE hR hk B.object.1 B.object.2 ?_) (by decide));refine zEs (by intro a h;cases h) (zHj ?_);have e1:Ext g s {s with heap:=s.heap.push {cls:=.type "object",data:=.plain}}:=Ext.push _
 have hR1:=(hR.ext e1).newId (a:=s.heap.objs.size) ⟨_,Heap.get?_push_size _ rfl,by simp⟩ (fun h=>Nat.lt_irrefl _ (hR.wlt _ h)) (fun h=>by
  refine ze11 (List.getElem?_of_mem h) fun n hn=>?_;refine ze12 (hR.idok.there n _ hn) fun o ho _=>?_;exact Nat.lt_irrefl _ (Heap.lt_size ho))
 refine zzwqm (zBt (y:=.obj ids.length) hE hR1 (Ext.refl _) hv (.obj _ _ (by simp))) (fun _x s₂ q=>?_) fun _x _x h=>h;refine ze12 q fun gh' h hz=>?_;clear q;exact⟨_,gh',fun _x _x e=>zDM e,h,trivial,Nat.le_trans e1.size hz⟩
theorem zPz {ts:List Expr}{c p e pos f tg}(he:SimE g j fs e f)(ht:SimTg g j fs (.Tuple ts c p) tg)(hsw:∀ env,swappedStores [.Tuple ts c p] e env=pure none)
  (hs:∀ env,swapsWithSole [.Tuple ts c p] e pos.line env=pure false):
  Sim1 g j fs (.Assign [.Tuple ts c p] e pos) (fun η=>(f η).bind fun v=>(tg v η).map fun η'=>(.next,η')):=by
 intro A ids Wo env gh η kp s o η' hA hE hR hx;refine zbd hx fun v hf hx=>?_;refine ze12 (Option.map_eq_some_iff.mp hx) fun η1 ht1 hx=>?_;cases hx;refine zAg (zznlr _) (zznlr _) (wpAny_Assign_stores ?_ (hs env) (hsw env));refine zzwqm (he A ids Wo env gh η kp s v hA hE hR hf) (fun a s₁ q=>?_) fun _x _x h=>h;refine ze02 q fun e1 r1=>?_;clear q;show wpAny _ A (PySem.assign (.Tuple ts c p) env a) _ _ s₁;exact zzwqm (ht A ids Wo env gh η kp s₁ a v _ hA hE (hR.ext e1) r1 ht1) (fun _ s₂ ⟨gh',h⟩ hz _=>⟨ids,gh',fun _x _x e=>e,h,trivial,hz⟩) fun _x _x h=>h
end
end Mine.Internal
end
noncomputable section
open PySem PySem.W PySem.Calls PyProof.Rows
open PySem.Builtin PySem.Builtin.Str
namespace Mine.Internal
noncomputable def zAJ (c:Nat):List Nat→Nat→Int
 | [],_=>-1
 | d::l,k=>if d=c then (k:Int) else zAJ c l (k+1)
theorem sub_one {l:List Nat}{c i:Nat}:subAt (ms l) ⟨#[c]⟩ i=true↔l[i]? = some c:=by
 rw[StrLaws.subAt_eq];show (((ms l).cps.toList.drop i).take 1==[c])=true↔_;have:(ms l).cps.toList=l:=rfl;rw[this];cases h:l.drop i with
 | nil=>
  have hl:l.length≤i:=by simpa using h
  simp[List.getElem?_eq_none hl]
 | cons d r=>
  have:l[i]? = some d:=by
   have:=congrArg (fun x:List Nat=>x[0]?) h;simpa using this
  simp[this]
theorem zCI {c:Nat}:∀ {l:List Nat} {k:Nat},(∀ i:Nat,l[i]?≠some c)→zAJ c l k=-1
 | [],_,_=>rfl
 | d::l,k,h=>by
  have h0:d≠c:=fun e=>h 0 (by simp[e]);unfold zAJ;rw[if_neg h0];exact zCI fun i=>by simpa using h (i+1)
theorem zCH {c:Nat}:∀ {l:List Nat} {k i:Nat},l[i]? = some c→(∀ m,m<i→l[m]?≠some c)→zAJ c l k=((k+i:Nat):Int)
 | [],_,_,h,_=>by simp at h
 | d::l,k,0,h,_=>by
  have:d=c:=by simpa using h
  unfold zAJ;rw[if_pos this];simp
 | d::l,k,i+1,h,hn=>by
  have h0:d≠c:=fun e=>hn 0 (Nat.succ_pos _) (by simp[e]);unfold zAJ;rw[if_neg h0,zCH (by simpa using h) fun m hm=>by simpa using hn (m+1) (Nat.succ_lt_succ hm)];congr 1;exact Nat.succ_add _ _
noncomputable def headI:List Nat→Int
 | i::_=>(i:Int)
 | []=>-1
theorem zFp {l:List Nat}{c lo hi:Nat}(hh:hi≤l.length):headI (occurrences (ms l) ⟨#[c]⟩ lo hi 1)=zAJ c ((l.take hi).drop lo) lo:=by
 have at_iff:∀ i,StrLaws.At (ms l) ⟨#[c]⟩ hi i↔(l.take hi)[i]? = some c:=fun i=>by
  unfold StrLaws.At;rw[sub_one];show i+1≤hi∧_↔_;by_cases h:i<hi
  ·rw[List.getElem?_take,if_pos h];exact⟨fun x=>x.2,fun x=>⟨h,x⟩⟩
  ·rw[List.getElem?_take,if_neg h];constructor
   ·intro x;lia
   ·intro x;exact noneE x
 rw[StrLaws.occ_eq];rcases StrLaws.occ_first (ms l) ⟨#[c]⟩ hi 1 (zznlr _) (List.range' lo (hi+1-lo)) lo (fun i h=>by have:=List.mem_range'_1.mp h;exact this.1) with ⟨h0,hn⟩ | ⟨pre,a,post,e,h0,ha,hn⟩
 ·rw[h0];refine(zCI fun i h=>?_).symm;have h2:(l.take hi)[lo+i]? = some c:=by simpa using h
  have hlt:lo+i<hi:=by
   have:=(List.getElem?_eq_some_iff.mp h2).1;simp at this;exact zn110 this
  exact hn (lo+i) (by rw[List.mem_range'_1];exact zn111 hlt) ((at_iff _).mpr h2)
 ·have hs:=StrLaws.range'_split_from e;have h1:(forIn (List.range' lo (hi+1-lo)) ((#[]:Array Nat),lo) (StrLaws.occBody (ms l) ⟨#[c]⟩ hi 1)).run.fst.toList[0]? = some a:=by simpa using h0
  generalize (forIn (List.range' lo (hi+1-lo)) ((#[]:Array Nat),lo) (StrLaws.occBody (ms l) ⟨#[c]⟩ hi 1)).run.fst.toList=ls at h1;cases ls with
  | nil=>exact noneE h1
  | cons b r=>
   have:b=a:=by simpa using h1
   subst this;show ((b:Nat):Int)=_;have h2:=(at_iff b).mp ha;rw[zCH (i:=b-lo) (by rw[List.getElem?_drop];have:lo+(b-lo)=b:=(by lia);rw[this];exact h2) fun m hm h=>?_]
   ·congr 1;lia
   ·have h3:(l.take hi)[lo+m]? = some c:=by simpa using h
    exact hn (lo+m) (hs.2 (lo+m) (zznar _ _) (Nat.add_lt_of_lt_sub' hm)) ((at_iff _).mpr h3)
theorem zG0 (x y:Str)(i j:Int)(t u v w:Tok):Gives («str.find» ⟨[.str x t,.str y u,.int i v,.int j w],[]⟩) (.int (match occurrences x y (fromIndex x.length i) (min (fromIndex x.length j) x.length) 1 with | k::_=>(k:Int) | []=>-1)):=by
 show Gives (match occurrences x y (fromIndex x.length i) (min (fromIndex x.length j) x.length) 1 with | k::_=>retInt k | []=>(do rule "str.find.not-found";retInt (-1))) _;cases occurrences x y (fromIndex x.length i) (min (fromIndex x.length j) x.length) 1 with
 | nil=>exact .rule (.of_eq rfl)
 | cons k _=>exact .of_eq rfl
noncomputable def subst (c:Nat)(z l:List Nat):List Nat:=l.flatMap fun d=>if d=c then z else [d]
theorem zCX {c z}:∀ {l:List Nat},c∉l→subst c z l=l
 | [],_=>rfl
 | d::l,h=>by
  have h1:d≠c:=fun e=>h (e▸zzlms ..);show (if d=c then z else [d])++subst c z l=d::l;rw[if_neg h1,zCX fun m=>h (List.mem_cons_of_mem _ m)];rfl
theorem zEG (c:Nat)(z:Str):∀ parts:List Str,(∀ p∈parts,c∉p.cps.toList)→subst c z.cps.toList (Str.join ⟨#[c]⟩ parts).cps.toList=(Str.join z parts).cps.toList
 | [],_=>rfl
 | [p],h=>zCX (h p (List.mem_singleton.mpr rfl))
 | p::q::r,h=>by
  have ih:=zEG c z (q::r) fun a ha=>h a (zzlmc _ ha);show subst c z.cps.toList (p++⟨#[c]⟩++Str.join ⟨#[c]⟩ (q::r)).cps.toList=(p++z++Str.join z (q::r)).cps.toList;simp only[Str.cps_append,Array.toList_append];unfold subst at ih ⊢;rw[List.flatMap_append,List.flatMap_append,ih];have:=zCX (z:=z.cps.toList) (h p (zzlms ..));unfold subst at this;rw[this];simp
theorem zCz (x z:Str)(c:Nat):(Txt.replace x ⟨#[c]⟩ z).cps.toList=subst c z.cps.toList x.cps.toList:=by
 rw[StrLaws.replace_one,←zEG c z _ (StrLaws.split_free x c),StrLaws.join_split]
theorem zF3 {c z}:∀ {l:List Nat},(subst c z l).length≤l.length*(z.length+1)
 | []=>by simp[subst]
 | d::l=>by
  have ih:=zF3 (c:=c) (z:=z) (l:=l);show ((if d=c then z else [d])++subst c z l).length≤_;rw[List.length_append,List.length_cons,Nat.add_mul];split<;>simp<;>lia
noncomputable def joinL (sep:List Nat):List (List Nat)→List Nat
 | []=>[]
 | [x]=>x
 | x::r=>x++sep++joinL sep r
theorem join_eq (sep:List Nat):∀ parts:List (List Nat),Str.join (ms sep) (parts.map ms)=ms (joinL sep parts)
 | []=>rfl
 | [x]=>rfl
 | x::y::r=>by
  have ih:=join_eq sep (y::r);show ms x++ms sep++Str.join (ms sep) ((y::r).map ms)=ms (x++sep++joinL sep (y::r));rw[ih,zBw,zBw]
end Mine.Internal
end
noncomputable section
open PySem PySem.W PySem.Calls PyProof.Rows
open PySem.Builtin PySem.Builtin.Str
namespace Mine.Internal
section
variable {g:GC} {j:Nat} {fs fsC:FS}
noncomputable def Op3 (g:GC)(j:Nat)(t:Value→Value→Value→Sem Value)(f:V→V→V→Option V):Prop:=
 ∀ (A:Around) (ids:List Addr) (W:Addr→Prop) (s:Shared) (a b c:Value) (x y z r:V),AOk j A→Wok g W s→RC g ids s.heap W a x→RC g ids s.heap W b y→RC g ids s.heap W c z→f x y z=some r→wpAny (model g.prog g.w) A (t a b c) (PE g ids W s r) Fl s
noncomputable def Op4 (g:GC)(j:Nat)(t:Value→Value→Value→Value→Sem Value)(f:V→V→V→V→Option V):Prop:=
 ∀ (A:Around) (ids:List Addr) (W:Addr→Prop) (s:Shared) (a b c d:Value) (x y z q r:V),AOk j A→Wok g W s→RC g ids s.heap W a x→RC g ids s.heap W b y→RC g ids s.heap W c z→RC g ids s.heap W d q→f x y z q=some r→wpAny (model g.prog g.w) A (t a b c d) (PE g ids W s r) Fl s
structure SMeth (name:Str)(id:String):Prop where
 slot:PySem.Slot "str" name id
 ty:typeOf (.builtin id)=pure (.type "method_descriptor")
noncomputable def b3 (f h k:List Slot→Option V)(o:V→V→V→Option V):List Slot→Option V:=fun η=>(f η).bind fun x=>(h η).bind fun y=>(k η).bind fun z=>o x y z
noncomputable def b4 (f h k m:List Slot→Option V)(o:V→V→V→V→Option V):List Slot→Option V:=fun η=>(f η).bind fun x=>(h η).bind fun y=>(k η).bind fun z=>(m η).bind fun q=>o x y z q
theorem zAn {A:Around}{E:Value→Shared→Prop}{s:Shared}{env:Env}{pos:Pos}{id:String}{v:Value}{e:Expr}{rest:List Expr}{Q:Value→Shared→Prop}
  (hn:notStar e=true) (hns:(backTo pos (starEach rest env)).any (·.1)=false)
  (h:wpAny (model g.prog g.w) A (spliced (backTo pos (starEach (e::rest) env))) (fun vs s₁=>wpAny (model g.prog g.w) A (call (.builtin id) (v::vs)) Q E s₁) E s):
  wpAny (model g.prog g.w) A (callWith pos (.builtin id) [v] (backTo pos (starEach (e::rest) env)) []) Q E s:=
 zAA (first:=[v]) (by intro a h;cases h) hn hns h
theorem zPx {o e:Expr}{name:Str}{id:String}{ap pos:Pos}{f h op}(hm:SMeth name id)(ho:SimC g j fs o f)(he:SimC g j fs e h)(hop:Op2 g j (fun a b=>call (.builtin id) [a,b]) op)(hs:∀ x y r,op x y=some r→∃ l,x=.str l)
  (hb:∀ env,attributeBase o name env (eval o env)=eval o env) (hline:(ap.endLine==pos.line)=true) (hn:notStar e=true):SimE g j fs (.Call (.Attribute o name ap) [e] [] pos) (b2 f h op):=by
 intro A ids Wo env gh η kp s v hA hE hR hx;refine zbd hx fun x hf hx=>?_;refine zbd hx fun y hh hx=>?_;refine ze11 (hs x y v hx) fun l z3=>?_;subst z3;have htr:backTo pos (starEach [e] env)=[(false,eval e env)]:=by rw[zAa hn];rfl
 refine wpAny_Call_method_late (hb env) (by rw[htr];rfl) hline rfl (zzwqm (ho A ids Wo env gh η kp s _ hA hE hR hf) (fun a s₁ q=>?_) fun _x _x h=>h);refine ze02 q fun e1 r1=>?_;clear q;refine ze13 r1.str fun t z4 c1 hz=>?_;subst z4;refine⟨"str",id,PySem.F.plainAttrs_str,hm.slot,hm.ty,typeIs_str _ _ _,fun a q=>(by cases q),?_⟩;refine zAn hn zAD ?_;rw[zAa hn];refine Calls.spliced_cons (zzwqm (he A ids Wo env gh η kp s₁ y hA hE (hR.ext e1) hh) (fun b s₂ q=>?_) fun _x _x h=>h);refine ze02 q fun e2 r2=>?_;clear q;refine Calls.spliced_nil ?_;exact zzwqm (hop A ids _ s₂ _ b _ y v hA (hR.wok.ext (e1.trans e2)) (r1.ext e2 Wt_P) r2 hx) (fun c s₃ q=>⟨(e1.trans e2).trans q.1,q.2⟩) fun _x _x h=>h
theorem zPw {o e e2:Expr}{name:Str}{id:String}{ap pos:Pos}{f h k op}(hm:SMeth name id)(ho:SimC g j fs o f)(he:SimC g j fs e h)(he2:SimC g j fs e2 k)(hop:Op3 g j (fun a b c=>call (.builtin id) [a,b,c]) op)(hs:∀ x y z r,op x y z=some r→∃ l,x=.str l)
  (hb:∀ env,attributeBase o name env (eval o env)=eval o env) (hline:(ap.endLine==pos.line)=true) (hn:notStar e=true) (hn2:notStar e2=true):SimE g j fs (.Call (.Attribute o name ap) [e,e2] [] pos) (b3 f h k op):=by
 intro A ids Wo env gh η kp s v hA hE hR hx;refine zbd hx fun x hf hx=>?_;refine zbd hx fun y hh hx=>?_;refine zbd hx fun z hk hx=>?_;refine ze11 (hs x y z v hx) fun l z5=>?_;subst z5;have htr:backTo pos (starEach [e,e2] env)=[(false,eval e env),(false,eval e2 env)]:=by rw[zAa hn,zAa hn2];rfl
 refine wpAny_Call_method_late (hb env) (by rw[htr];rfl) hline rfl (zzwqm (ho A ids Wo env gh η kp s _ hA hE hR hf) (fun a s₁ q=>?_) fun _x _x h=>h);refine ze02 q fun e1 r1=>?_;clear q;refine ze13 r1.str fun t z6 c1 hz=>?_;subst z6;refine⟨"str",id,PySem.F.plainAttrs_str,hm.slot,hm.ty,typeIs_str _ _ _,fun a q=>(by cases q),?_⟩;refine zAn hn (zAW hn2 zAD) ?_;rw[zAa hn,zAa hn2];refine Calls.spliced_cons (zzwqm (he A ids Wo env gh η kp s₁ y hA hE (hR.ext e1) hh) (fun b s₂ q=>?_) fun _x _x h=>h);refine ze02 q fun e2 r2=>?_;clear q;refine Calls.spliced_cons (zzwqm (he2 A ids Wo env gh η kp s₂ z hA hE (hR.ext (e1.trans e2)) hk) (fun c s₃ q=>?_) fun _x _x h=>h);refine ze02 q fun e3 r3=>?_;clear q;refine Calls.spliced_nil ?_;exact zzwqm (hop A ids _ s₃ _ b c _ y z v hA (hR.wok.ext ((e1.trans e2).trans e3)) (r1.ext (e2.trans e3) Wt_P) (r2.ext e3 Wt_P) r3 hx) (fun c s₄ q=>⟨((e1.trans e2).trans e3).trans q.1,q.2⟩) fun _x _x h=>h
theorem zPv {o e e2 e3:Expr}{name:Str}{id:String}{ap pos:Pos}{f h k m op}(hm:SMeth name id)(ho:SimC g j fs o f)(he:SimC g j fs e h)(he2:SimC g j fs e2 k)(he3:SimC g j fs e3 m)(hop:Op4 g j (fun a b c d=>call (.builtin id) [a,b,c,d]) op)(hs:∀ x y z q r,op x y z q=some r→∃ l,x=.str l)
  (hb:∀ env,attributeBase o name env (eval o env)=eval o env) (hline:(ap.endLine==pos.line)=true) (hn:notStar e=true) (hn2:notStar e2=true) (hn3:notStar e3=true):SimE g j fs (.Call (.Attribute o name ap) [e,e2,e3] [] pos) (b4 f h k m op):=by
 intro A ids Wo env gh η kp s v hA hE hR hx;refine zbd hx fun x hf hx=>?_;refine zbd hx fun y hh hx=>?_;refine zbd hx fun z hk hx=>?_;refine zbd hx fun q hq hx=>?_;refine ze11 (hs x y z q v hx) fun l z0=>?_;subst z0;have htr:backTo pos (starEach [e,e2,e3] env)=[(false,eval e env),(false,eval e2 env),(false,eval e3 env)]:=by rw[zAa hn,zAa hn2,zAa hn3];rfl
 refine wpAny_Call_method_late (hb env) (by rw[htr];rfl) hline rfl (zzwqm (ho A ids Wo env gh η kp s _ hA hE hR hf) (fun a s₁ q=>?_) fun _x _x h=>h);refine ze02 q fun e1 r1=>?_;clear q;refine ze13 r1.str fun t z1 c1 hz=>?_;subst z1;refine⟨"str",id,PySem.F.plainAttrs_str,hm.slot,hm.ty,typeIs_str _ _ _,fun a q=>(by cases q),?_⟩;refine zAn hn (zAW hn2 (zAW hn3 zAD)) ?_;rw[zAa hn,zAa hn2,zAa hn3];refine Calls.spliced_cons (zzwqm (he A ids Wo env gh η kp s₁ y hA hE (hR.ext e1) hh) (fun b s₂ q=>?_) fun _x _x h=>h);refine ze02 q fun e2 r2=>?_;clear q;refine Calls.spliced_cons (zzwqm (he2 A ids Wo env gh η kp s₂ z hA hE (hR.ext (e1.trans e2)) hk) (fun c s₃ q=>?_) fun _x _x h=>h);refine ze02 q fun e3 r3=>?_;clear q;refine Calls.spliced_cons (zzwqm (he3 A ids Wo env gh η kp s₃ q hA hE (hR.ext ((e1.trans e2).trans e3)) hq) (fun d s₄ q=>?_) fun _x _x h=>h);refine ze02 q fun e4 r4=>?_;clear q;refine Calls.spliced_nil ?_;exact zzwqm (hop A ids _ s₄ _ b c d _ y z q v hA (hR.wok.ext (((e1.trans e2).trans e3).trans e4)) (r1.ext ((e2.trans e3).trans e4) Wt_P) (r2.ext (e3.trans e4) Wt_P) (r3.ext e4 Wt_P) r4 hx) (fun c s₅ q=>⟨(((e1.trans e2).trans e3).trans e4).trans q.1,q.2⟩) fun _x _x h=>h
noncomputable def zAN (n:Nat)(i:Int):Nat:=(max 0 (if i<0 then i+n else i)).toNat
noncomputable def zGq (x y i:V):Option V:=(asStr x).bind fun l=>(asStr y).bind fun q=>(one q).bind fun c=>(asInt i).bind fun i=>some (.int (zAJ c (l.drop (zAN l.length i)) (zAN l.length i)))
noncomputable def zGo (x y i k:V):Option V:=(asStr x).bind fun l=>(asStr y).bind fun q=>(one q).bind fun c=>(asInt i).bind fun i=>(asInt k).bind fun k=>some (.int (zAJ c ((l.take (min (zAN l.length k) l.length)).drop (zAN l.length i)) (zAN l.length i)))
theorem zGp {x y z r:V}(h:zGq x y z=some r):∃ l c i,x=.str l∧y=.str [c]∧z=.int i:=by
 refine zbd h fun l h1 h=>?_;refine zbd h fun q h2 h=>?_;refine zbd h fun c h3 h=>?_;refine zbd h fun i h4 h=>?_;exact⟨l,c,i,zAv h1,zGT h3▸zAv h2,zAS h4⟩
theorem zGn {x y z w r:V}(h:zGo x y z w=some r):∃ l c i k,x=.str l∧y=.str [c]∧z=.int i∧w=.int k:=by
 refine zbd h fun l h1 h=>?_;refine zbd h fun q h2 h=>?_;refine zbd h fun c h3 h=>?_;refine zbd h fun i h4 h=>?_;refine zbd h fun k h5 h=>?_;exact⟨l,c,i,k,zAv h1,zGT h3▸zAv h2,zAS h4,zAS h5⟩
theorem zJd:SMeth "find" "str.find":=⟨PySem.F.slot_str_find,PySem.F.type_str_find⟩
theorem Op3.find:Op3 g j (fun a b c=>call (.builtin "str.find") [a,b,c]) zGq:=by
 intro A ids W s a b c x y z r hA hW ra rb rc h;refine ze33 (zGp h) fun l d i z2 z3 z4=>?_;subst z2;subst z3;subst z4;cases h;refine ze13 ra.str fun t z5 c1 hz=>?_;subst z5;refine ze13 rb.str fun u z6 _ _=>?_;subst z6;refine ze11 rc.int fun v z0=>?_;subst z0;refine call_gives PySem.F.slot_str_find (typeIs_str _ _ _) PySem.F.entry_str_find (PySem.F.args_str_find_3 _ _ _) (gives_str_find_from (ms l) (ms [d]) i t u v) ?_;have e:=zFp (l:=l) (c:=d) (lo:=zAN l.length i) (hi:=l.length) (zznlr _);rw[List.take_length] at e;refine⟨Ext.toks ..,?_⟩;have e2:fromIndex (ms l).length i=zAN l.length i:=by unfold fromIndex zAN;simp[Str.length]
 rw[e2];have e3:(ms l).length=l.length:=by simp[Str.length]
 rw[e3];rw[←e];exact .int (headI _) _
theorem Op4.find:Op4 g j (fun a b c d=>call (.builtin "str.find") [a,b,c,d]) zGo:=by
 intro A ids W s a b c d x y z q r hA hW ra rb rc rd h;refine ze44 (zGn h) fun l d i k z1 z2 z3 z4=>?_;subst z1;subst z2;subst z3;subst z4;cases h;refine ze13 ra.str fun t z5 c1 hz=>?_;subst z5;refine ze13 rb.str fun u z6 _ _=>?_;subst z6;refine ze11 rc.int fun v z0=>?_;subst z0;refine ze11 rd.int fun w z1=>?_;subst z1;refine call_gives PySem.F.slot_str_find (typeIs_str _ _ _) PySem.F.entry_str_find (PySem.F.args_str_find_4 _ _ _ _) (zG0 (ms l) (ms [d]) i k t u v w) ?_;have e:=zFp (l:=l) (c:=d) (lo:=zAN l.length i) (hi:=min (zAN l.length k) l.length) (Nat.min_le_right _ _);refine⟨Ext.toks ..,?_⟩;have e2:∀ i,fromIndex (ms l).length i=zAN l.length i:=fun i=>by unfold fromIndex zAN;simp[Str.length]
 rw[e2,e2];have e3:(ms l).length=l.length:=by simp[Str.length]
 rw[e3];rw[←e];exact .int (headI _) _
noncomputable def replV (c:Nat)(z:List Nat)(x:V):Option V:=(asStr x).bind fun l=>if l.length≤100000 then some (.str (subst c z l)) else none
theorem SimE.replace {o:Expr}{ap pos k1 k2 p1 p2}{x y:Str}{c:Nat}{z:List Nat}{f}(ho:SimC g j fs o f)(hx:x=⟨#[c]⟩)(hy:y.cps.toList=z)(hc:(z.all fun c=>decide (c<1114112))=true)(hz:z.length≤10)(hne:(⟨#[c]⟩==y)=false)
  (hb:∀ env,attributeBase o "replace" env (eval o env)=eval o env) (hline:(ap.endLine==pos.line)=true):
  SimE g j fs (.Call (.Attribute o "replace" ap) [.Constant (.str x) k1 p1,.Constant (.str y) k2 p2] [] pos) (fun η=>(f η).bind (replV c z)):=by
 intro A ids Wo env gh η kp s v hA hE hR hx';refine zbd hx' fun w hf hx'=>?_;refine zbd hx' fun l hs hx2=>?_;cases zAv hs;refine ze02 (zAl hx2) fun hl hx2=>?_;cases hx2;subst hx;have htr:backTo pos (starEach [.Constant (.str ⟨#[c]⟩) k1 p1,.Constant (.str y) k2 p2] env)=[(false,eval (.Constant (.str ⟨#[c]⟩) k1 p1) env),(false,eval (.Constant (.str y) k2 p2) env)]:=by rw[zAa rfl,zAa rfl];rfl
 refine wpAny_Call_method_late (hb env) (by rw[htr];rfl) hline rfl (zzwqm (ho A ids Wo env gh η kp s _ hA hE hR hf) (fun a s₁ q=>?_) fun _x _x h=>h);refine ze02 q fun e1 r1=>?_;clear q;refine ze13 r1.str fun t z2 c1 hz1=>?_;subst z2;have hR1:=hR.ext e1;refine⟨"str","str.replace",PySem.F.plainAttrs_str,PySem.F.slot_str_replace,PySem.F.type_str_replace,typeIs_str _ _ _,fun a q=>(by cases q),?_⟩;refine zAn rfl (zAW rfl zAD) ?_;rw[zAa rfl,zAa rfl];refine Calls.spliced_cons (wpAny_Constant_str (k:=k1) (pos:=p1) ?_);refine Calls.spliced_cons (wpAny_Constant_str (k:=k2) (pos:=p2) ?_);refine Calls.spliced_nil ?_;have hlen:(ms l).length=l.length:=by simp[Str.length]
 have hyl:y.length=z.length:=by rw[←hy];simp[Str.length]
 refine up (SC.replace (Nat.pos_iff_ne_zero.mp hR1.tk) (Nat.succ_ne_zero _) (Nat.ne_of_lt (Nat.lt_succ_self _)) hne (by rw[hlen,hyl];exact zznlt (Nat.add_le_add hl (Nat.mul_le_mul (Nat.add_le_add_right hl 1) hz)) (by decide)) fun t' k hk=>?_);have e2:Ext g s₁ {s₁ with toks:=k}:=Ext.toks _ k (by have:s₁.toks+1+1≤k:=hk;exact Nat.le_of_succ_le (Nat.le_of_succ_le this));refine⟨e1.trans e2,?_⟩;have e3:Txt.replace (ms l) ⟨#[c]⟩ y=ms (subst c z l):=by
  have:=zCz (ms l) y c;rw[hy] at this;show _=(⟨(subst c z l).toArray⟩:Str);rw[←this]
 rw[e3];refine .str _ _ (fun d hd=>?_) ?_
 ·refine ze12 (List.mem_flatMap.mp hd) fun b hb1 hb2=>?_;split at hb2
  ·exact zzode (List.all_eq_true.mp hc d hb2)
  ·have:d=b:=by simpa using hb2
   exact c1 d (this▸hb1)
 ·refine zznlt zF3 (zznlt (Nat.mul_le_mul hl (Nat.add_le_add_right hz 1)) ?_);rw[sizeLine_eq];decide
noncomputable def strsOf:List V→Option (List (List Nat))
 | []=>some []
 | .str l::r=>(strsOf r).map (l::·)
 | _::_=>none
noncomputable def joinV (x y:V):Option V:=(asStr x).bind fun sep=>(asLst y).bind fun ps=>(strsOf ps).bind fun ls=>if (ls.map fun l=>l.length+sep.length).sum≤1000000 then some (.str (joinL sep ls)) else none
theorem zJc:SMeth "join" "str.join":=⟨PySem.F.slot_str_join,PySem.F.type_str_join⟩
theorem zF4 {ids h W}{vs:List Value}{ps:List V}{ls:List (List Nat)}(r:RL ids h W vs ps)(h:strsOf ps=some ls):∃ l:List (Str×Tok),vs=strValues l∧l.map (·.1)=ls.map ms∧∀ p∈ls,∀ c∈p,c<1114112:=by
 induction ps generalizing vs ls with
 | nil=>cases r;cases h;exact⟨[],rfl,rfl,nofun⟩
 | cons x ps ih=>
  cases r with
  | cons a b=>cases a with
   | str l t hl hz=>
    refine ze12 (Option.map_eq_some_iff.mp h) fun ls' h1 h2=>?_;refine ze13 (ih b h1) fun q h3 h4 h5=>?_;subst h2;refine⟨(ms l,t)::q,by rw[h3];rfl,by simp[h4],fun p hp=>?_⟩;rcases List.mem_cons.mp hp with rfl | hp
    ·exact hl
    ·exact h5 p hp
   | _=>exact noneE h
theorem zEg {sep:List Nat}{c:Nat}:∀ {ls:List (List Nat)},c∈joinL sep ls→(∃ l∈ls,c∈l)∨c∈sep
 | [],h=>by simp[joinL] at h
 | [x],h=>.inl ⟨x,by simp,h⟩
 | x::y::r,h=>by
  unfold joinL at h;rcases List.mem_append.mp h with h | h
  ·rcases List.mem_append.mp h with h | h
   ·exact .inl ⟨x,by simp,h⟩
   ·exact .inr h
  ·rcases zEg h with ⟨l,hl,hc⟩ | h
   ·exact .inl ⟨l,by simp at hl ⊢;exact .inr hl,hc⟩
   ·exact .inr h
theorem zCF {sep:List Nat}:∀ {ls:List (List Nat)},(joinL sep ls).length≤(ls.map fun l=>l.length+sep.length).sum
 | []=>by simp[joinL]
 | [x]=>by simp[joinL]
 | x::y::r=>by
  have ih:=zCF (sep:=sep) (ls:=y::r);have e:joinL sep (x::y::r)=x++sep++joinL sep (y::r):=rfl;rw[e,List.length_append,List.length_append,List.map_cons,List.sum_cons];exact Nat.add_le_add_left ih _
theorem zHU (sep:Str):∀ (ts:List Str) (n:Nat),ts.foldl (· + ·.length+sep.length) n=n+(ts.map fun t=>t.length+sep.length).sum
 | [],n=>by simp
 | t::ts,n=>by rw[List.foldl_cons,zHU sep ts];simp;exact zn113
theorem zGY {sep:List Nat}{ls:List (List Nat)}(h:(ls.map fun l=>l.length+sep.length).sum≤1000000):JoinOk (ms sep) (ls.map ms)=true:=by
 unfold JoinOk;rw[Bool.not_eq_true'];have e:(ls.map ms).toArray.foldl (· + ·.length+(ms sep).length) 0=(ls.map fun l=>l.length+sep.length).sum:=by
  rw[List.foldl_toArray',zHU (ms sep) (ls.map ms) 0]
  ·simp[Str.length,Function.comp_def]
  ·simp
 rw[e];unfold tooLong sizeLine;exact zzdef (by lia)
theorem Op2.join:Op2 g j (fun a b=>call (.builtin "str.join") [a,b]) joinV:=by
 intro A ids W s a b x y r hA hW ra rb h;refine zbd h fun sep hx h2=>?_;refine zbd h2 fun ps hy h3=>?_;cases zAv hx;cases zGB hy
 ·refine zbd h3 fun ls hls h4=>?_;refine ze02 (zAl h4) fun hsum h4=>?_;cases h4;refine ze13 ra.str fun t z3 c1 hz=>?_;subst z3;refine ze25 (rb.lst hW.P) fun a' vs z4 hl _ r1 _=>?_;subst z4;refine ze13 (zF4 r1 hls) fun q z5 h4 h5=>?_;subst z5;refine up (SC.join hl h4 (zGY hsum) fun t' k hk=>⟨Ext.toks _ k hk,?_⟩);have e:Txt.join (ms sep) (ls.map ms)=ms (joinL sep ls):=by unfold Txt.join;rw[StrLaws.glued_eq_join,join_eq]
  rw[e];refine .str _ _ (fun c hc=>?_) (zznlt zCF (zznlt hsum (by rw[sizeLine_eq];decide)));rcases zEg hc with ⟨l,hl,hc⟩ | hc
  ·exact h5 l hl c hc
  ·exact c1 c hc
end
end Mine.Internal
end
noncomputable section
open PySem PySem.W PySem.Calls PyProof.Rows
namespace Mine.Internal
section
variable {g:GC} {j:Nat} {fs fsC:FS}
noncomputable def SimF (g:GC)(j:Nat)(fs:FS)(es:List Expr)(f:List Slot→Option (List Nat)):Prop:=
 ∀ (A:Around) (ids:List Addr) (Wo:Addr→Prop) (env:Env) (gh:Gh) (η:List Slot) (kp:Addr→Option Obj) (s:Shared) (x out:List Nat),
  AOk j A→EnvOk fs env→Rel g ids Wo env fs.vm gh η kp s→f η=some x→(∀ c∈out,c<1114112)→out.length+x.length≤sizeLine→
  wpAny (model g.prog g.w) A (joinParts (ms out) (evalEach es env)) (fun v s'=>Ext g s s'∧R ids s'.heap (Wt g Wo env gh η) v (.str (out++x))) Fl s
noncomputable def strE (f:List Slot→Option V)(h:List Slot→Option (List Nat)):List Slot→Option (List Nat):=fun η=>(f η).bind fun v=>(asStr v).bind fun l=>(h η).map (l++·)
theorem SimF.nil:SimF g j fs [] (fun _x=>some []):=by
 intro A ids Wo env gh η kp s x out hA hE hR hx hc hz;cases hx;exact joinParts_nilE (joinParts_nil ⟨Ext.toks ..,by rw[List.append_nil];exact .str _ _ hc (by simpa using hz)⟩ (by simpa [Str.length] using hz))
theorem SimF.cons {e es f h}(he:SimE g j fs e f)(hr:SimF g j fs es h):SimF g j fs (e::es) (strE f h):=by
 intro A ids Wo env gh η kp s x out hA hE hR hx hc hz;refine zbd hx fun v hf hx=>?_;refine zbd hx fun l hl hx2=>?_;cases zAv hl;refine ze12 (Option.map_eq_some_iff.mp hx2) fun y hy z6=>?_;subst z6;refine joinParts_consE (joinParts_cons (zzwqm (he A ids Wo env gh η kp s _ hA hE hR hf) (fun v s₁ q=>?_) fun _x _x h=>h));refine ze02 q fun e1 r1=>?_;clear q;refine ze13 ((RC.ofR (g:=g) r1).str) fun t z0 c1 _=>?_;subst z0;have hz':(out++l).length+y.length≤sizeLine:=by rw[List.length_append] at hz ⊢;exact zn114 hz
 refine⟨by rw[zBw];simp[Str.length];rw[List.length_append] at hz';exact zznlt (zznar _ _) hz',?_⟩;rw[zBw];refine zzwqm (hr A ids Wo env gh η kp s₁ y (out++l) hA hE (hR.ext e1) hy (fun c h=>?_) hz') (fun v s₂ q=>⟨e1.trans q.1,by have r2:=q.2;rw[List.append_assoc] at r2;exact r2⟩) fun _x _x h=>h;rcases List.mem_append.mp h with h | h
 ·exact hc c h
 ·exact c1 c h
noncomputable def fmtE (f:List Slot→Option V):List Slot→Option V:=fun η=>(f η).bind fun v=>(asStr v).map .str
theorem zQj {e pos f}(he:SimE g j fs e f):SimE g j fs (.FormattedValue e (-1) none pos) (fmtE f):=by
 intro A ids Wo env gh η kp s x hA hE hR hx;refine zbd hx fun v hf hx=>?_;refine ze12 (Option.map_eq_some_iff.mp hx) fun l hl z1=>?_;subst z1;cases zAv hl;refine FormattedValue_plain (zzwqm (he A ids Wo env gh η kp s _ hA hE hR hf) (fun v s₁ q=>?_) fun _x _x h=>h);refine ze02 q fun e1 r1=>?_;clear q;refine ze13 ((RC.ofR (g:=g) r1).str) fun t z2 c1 hz=>?_;subst z2;refine up (formatField_str (fun t' tk hk=>⟨e1.trans (Ext.toks _ tk hk),.str l t' c1 hz⟩) (by simpa [Str.length] using hz))
noncomputable def fstrV (f:List Slot→Option (List Nat)):List Slot→Option V:=fun η=>(f η).bind fun x=>if x.length≤1000000 then some (.str x) else none
theorem zP5 {e e2:Expr}{es:List Expr}{pos f}(h:SimF g j fs (e::e2::es) f):SimE g j fs (.JoinedStr (e::e2::es) pos) (fstrV f):=by
 intro A ids Wo env gh η kp s x hA hE hR hx;refine zbd hx fun l hf hx=>?_;refine ze02 (zAl hx) fun hz hx=>?_;cases hx;refine JoinedStr_many ?_;exact h A ids Wo env gh η kp s l [] hA hE hR hf (by simp) (by rw[sizeLine_eq];simp;exact zznlt hz (zznal _ _))
end
structure St0 (g:GC)(ids:List Addr)(W:Addr→Prop)(s:Shared):Prop where
 keep0:∀ b o,g.h0.get? b=some o→s.heap.get? b=some o
 tab:TabOk g s.heap
 gens:AllBare s.gens
 os:s.os=g.os
 offP:g.h0.get? g.P=none
 idok:IdsOk ids s.heap
 ok:Wok g W s
 tk:0<s.toks
 idoff:∀ (n:Nat) (a:Addr),ids[n]? = some a→¬W a
theorem Rel.st0 {g ids Wo env vm gh η kp}{s:Shared}(hR:Rel g ids Wo env vm gh η kp s):St0 g ids (Wt g Wo env gh η) s:=
 ⟨hR.keep0,hR.tab,hR.gens,hR.os,hR.offP.2,hR.idok,hR.wok,hR.tk,hR.idoff⟩
noncomputable def FnOk (g:GC)(j:Nat)(name:Str)(F:List V→Option V):Prop:=
 ∃ fv,g.mg name=some (.ref fv)∧(∃ o fd,g.h0.get? fv=some o∧o.data=.func fd)∧
 ∀ (A:Around) (ids:List Addr) (W:Addr→Prop) (s:Shared) (vs:List Value) (xs:List V) (r:V),AOk j A→St0 g ids W s→RL ids s.heap W vs xs→F xs=some r→
  wpAny (model g.prog g.w) A (call (.ref fv) vs) (PE g ids W s r) Fl s
mutual
noncomputable def zBP (k:Nat):V→Bool
 | .obj n=>decide (n<k)
 | .tup l=>zAM k l
 | .lst l=>zAM k l
 | _=>true
noncomputable def zAM (k:Nat):List V→Bool
 | []=>true
 | x::r=>zBP k x&&zAM k r
end
theorem R.ltB {ids h W}:(∀ {v x},R ids h W v x→zBP ids.length x=true)∧∀ {vs xs},RL ids h W vs xs→zAM ids.length xs=true:=
 R.ind rfl (fun _x=>rfl) (fun _x _x=>rfl) (fun _x _x _x _x=>rfl) (fun n a e=>zzdet (List.getElem?_eq_some_iff.mp e).1) (fun _x _x _x _x _x _x ih=>ih) (fun _x _x _x _x _x _x ih=>ih) rfl (fun _x _x _x _x i1 i2=>Bool.and_eq_true_iff.mpr ⟨i1,i2⟩)
theorem RL.lt {ids h W vs xs}(r:RL ids h W vs xs):zAM ids.length xs=true:=R.ltB.2 r
theorem R.backB {ids ids':List Addr}{h W}(hi:∀ (n:Nat) (a:Addr),ids[n]? = some a→ids'[n]? = some a):(∀ {v x},R ids' h W v x→zBP ids.length x=true→R ids h W v x)∧∀ {vs xs},RL ids' h W vs xs→zAM ids.length xs=true→RL ids h W vs xs:=
 R.ind (fun _x=>.none) (fun b _x=>.bool b) (fun i t _x=>.int i t) (fun l t a b _x=>.str l t a b)
  (fun n a e hl=>.obj n a (((hi n _ (zzlge (zzode hl))).symm.trans e)▸zzlge (zzode hl)))
  (fun a vs xs hz ht hn ih hl=>.tup a vs xs hz ht hn (ih hl)) (fun a vs xs hz ht hn ih hl=>.lst a vs xs hz ht hn (ih hl)) (fun _x=>.nil) (fun _x _x _x _x i1 i2 hl=>.cons (i1 (Bool.and_eq_true_iff.mp hl).1) (i2 (Bool.and_eq_true_iff.mp hl).2))
theorem R.back {ids ids':List Addr}{h W}(hi:∀ (n:Nat) (a:Addr),ids[n]? = some a→ids'[n]? = some a){v x}(r:R ids' h W v x)(hl:zBP ids.length x=true):R ids h W v x:=(R.backB hi).1 r hl
theorem zCV {x:Str}:∀ {names:List (Str×NameKind)} {n:Nat} {acc:List (Str×Addr)},names.lookup x=some .cell∨(acc.lookup x).isSome=true→((cellsFrom n names acc).lookup x).isSome=true
 | [],_,_,h=>by
  rcases h with h | h
  ·simp at h
  ·exact h
 | (y,k)::r,n,acc,h=>by
  unfold cellsFrom;by_cases hk:(k==NameKind.cell)=true
  ·rw[if_pos hk];refine zCV ?_;by_cases hx:(x==y)=true
   ·exact .inr (by simp[List.lookup_cons,hx])
   ·have hx':(x==y)=false:=by simpa using hx
    rcases h with h | h
    ·exact .inl (by simpa [List.lookup_cons,hx'] using h)
    ·exact .inr (by simpa [List.lookup_cons,hx'] using h)
  ·rw[if_neg hk];refine zCV ?_;rcases h with h | h
   ·by_cases hx:(x==y)=true
    ·simp[List.lookup_cons,hx] at h;subst h;exact absurd rfl hk
    ·have hx':(x==y)=false:=by simpa using hx
     exact .inl (by simpa [List.lookup_cons,hx'] using h)
   ·exact .inr h
theorem zE1 {kindOf:Str→Option NameKind}{x:Str}:∀ {binds:List (Str×Value)} {m:Str→Option Value},(∀ b∈binds,b.1≠x)→bindL kindOf binds m x=m x
 | [],_,_=>rfl
 | (n,v)::r,m,h=>by
  unfold bindL;rw[zE1 fun b hb=>h b (List.mem_cons_of_mem _ hb)];split
  ·have:n≠x:=h (n,v) zzlms;simp[Ne.symm this]
  ·rfl
theorem zE2 {kindOf:Str→Option NameKind}{x:Str}:∀ {binds:List (Str×Value)} {m:Str→Option Value},(∀ b∈binds,b.1≠x)→bindC kindOf binds m x=m x
 | [],_,_=>rfl
 | (n,v)::r,m,h=>by
  unfold bindC;rw[zE2 fun b hb=>h b (List.mem_cons_of_mem _ hb)];split
  ·rfl
  ·have:n≠x:=h (n,v) zzlms;simp[Ne.symm this]
theorem zIg {kindOf:Str→Option NameKind}{x:Str}(hk:kindOf x=some .local):∀ {names:List Str} {vs:List Value} {i:Nat} {v:Value} {m:Str→Option Value},names.Nodup→names[i]? = some x→vs[i]? = some v→bindL kindOf (names.zip vs) m x=some v
 | [],_,_,_,_,_,h,_=>by simp at h
 | n::ns,[],i,v,m,_,h,hv=>by simp at hv
 | n::ns,w::vs,0,v,m,hn,h,hv=>by
  have e1:n=x:=by simpa using h
  have e2:w=v:=by simpa using hv
  subst e1 e2;show bindL kindOf ((n,w)::ns.zip vs) m n=some w;unfold bindL;rw[zE1 fun b hb=>?_]
  ·simp[hk]
  ·have:=(List.nodup_cons.mp hn).1;exact fun e=>this (e▸(List.of_mem_zip hb).1)
 | n::ns,w::vs,i+1,v,m,hn,h,hv=>by
  show bindL kindOf ((n,w)::ns.zip vs) m x=some v;unfold bindL;exact zIg hk (List.nodup_cons.mp hn).2 (by simpa using h) (by simpa using hv)
theorem zIh {kindOf:Str→Option NameKind}{x:Str}(hk:kindOf x≠some .local):∀ {names:List Str} {vs:List Value} {i:Nat} {v:Value} {m:Str→Option Value},names.Nodup→names[i]? = some x→vs[i]? = some v→bindC kindOf (names.zip vs) m x=some v
 | [],_,_,_,_,_,h,_=>by simp at h
 | n::ns,[],i,v,m,_,h,hv=>by simp at hv
 | n::ns,w::vs,0,v,m,hn,h,hv=>by
  have e1:n=x:=by simpa using h
  have e2:w=v:=by simpa using hv
  subst e1 e2;show bindC kindOf ((n,w)::ns.zip vs) m n=some w;unfold bindC;rw[zE2 fun b hb=>?_]
  ·simp[hk]
  ·have:=(List.nodup_cons.mp hn).1;exact fun e=>this (e▸(List.of_mem_zip hb).1)
 | n::ns,w::vs,i+1,v,m,hn,h,hv=>by
  show bindC kindOf ((n,w)::ns.zip vs) m x=some v;unfold bindC;exact zIh hk (List.nodup_cons.mp hn).2 (by simpa using h) (by simpa using hv)
structure FsOk (fs:FS)(ps:List Str)(n:Nat):Prop where
 kind:fs.scope.kind=.function
 co:fs.scope.isCoroutine=false
 gen:fs.scope.isGenerator=false
 nodup:ps.Nodup
 par:∀ x∈ps,zAj fs.scope x=some .local∨zAj fs.scope x=some .cell
 var:∀ x i,fs.vm x=some i→i<n∧(zAj fs.scope x=some .local∨(zAj fs.scope x=some .cell∧(x==("__classdict__":Str))=false))∧(i<ps.length→ps[i]? = some x)
 inj:∀ x y i,fs.vm x=some i→fs.vm y=some i→x=y
inductive FnAt (g:GC)(name:Str)(params:Arguments)(body:List Stmt)(scope:Scope)(code:Option (Addr×Str)):Prop
 | mk (fv:Addr) (o:Obj) (pm cd doc:Value):g.mg name=some (.ref fv)→g.h0.get? fv=some o→o.data=.func (docDef name params body scope pm cd doc)→g.h0.CodeRec cd name→(∀ c q,code=some (c,q)→cd=.ref c∧q=name++".<locals>.")→FnAt g name params body scope code
theorem zDF {M:Model}{A:Around}{E:Value→Shared→Prop}{s₀:Shared}{env:Env}(f:Str×Value→PUnit→Sem (ForInStep PUnit))(hf:∀ n v u,f (n,v) u=(do storeName env n v;pure (.yield ⟨⟩)))(hk:env.scope.kind=.function)
  (n:Str) (v:Value) (r:List (Str×Value)) (m cm:Str→Option Value) (s:Shared) (Q:PUnit→Shared→Prop) (x:InCallC s₀ env.locals m env.cells cm s) (hl:env.kindOf n=some .local)
  (hr:∀ x∈r,env.kindOf x.1=some .local∨(env.kindOf x.1=some .cell∧(env.cells.lookup x.1).isSome=true))
  (h:∀ s',InCallC s₀ env.locals (bindL env.kindOf ((n,v)::r) m) env.cells (bindC env.kindOf ((n,v)::r) cm) s'→s.toks<s'.toks→Q ⟨⟩ s'):wpAny M A (forIn ((n,v)::r) ⟨⟩ f) Q E s:=by
 rw[List.forIn_cons,hf];refine zzwqb (zzwqb (wpAny_storeName_local hl x.toInCall.ns (fun h' hn' hs'=>zzwqp ?_) (by rw[hk];rfl)));refine zAg (n:=0) (Nat.zero_le _) (zznlr _) (wpAny_bindParams f hf hk r _ _ _ _ (⟨⟨?_,hn',fun b o e=>?_,x.toInCall.fresh⟩,fun k c hc=>?_,x.apart,x.above⟩:InCallC s₀ env.locals (fun y=>if y=n then some v else m y) env.cells cm _) hr fun s'' x'' _x ht=>h s'' ?_ ht)
 ·refine ze21 x.toInCall.same fun h₁ tk z3=>?_;subst z3;exact⟨h',_,rfl⟩
 ·exact hs'.extBut b o (Nat.ne_of_lt (zznlv (Heap.lt_size e) x.toInCall.fresh)) (x.toInCall.keep b o e)
 ·exact(x.cell k c hc).sameBut hs' (Nat.ne_of_gt (x.above k c (mem_of_lookup hc)))
 ·unfold bindL bindC;rw[if_pos hl,if_pos hl];exact x''
theorem zGV {M:Model}{A:Around}{E:Value→Shared→Prop}{s:Shared}{scope:Scope}{globals:Addr}{binds:List (Str×Value)}{qual:Str}{func:Option Addr}{code:Value}{builtins:Addr}{Q:Env→Shared→Prop}
  (hk:scope.kind=.function)
  (hkind:∀ x∈binds,scope.names.lookup x.1=some .local∨(scope.names.lookup x.1=some .cell∧((cellsFrom (s.heap.objs.size+1) scope.names []).lookup x.1).isSome=true))
  (hQ:∀ env,env=newEnv scope s.heap.objs.size globals (cellsFrom (s.heap.objs.size+1) scope.names []) qual func code none builtins→
   ∀ s',InCallC s env.locals (bindL env.kindOf binds fun _x=>none) env.cells (bindC env.kindOf binds fun _x=>none) s'→(∀ n v r,binds=(n,v)::r→scope.names.lookup n=some .local→s.toks<s'.toks)→Q env s'):
  wpAny M A (newFunctionEnv scope globals [] binds qual func code none builtins) Q E s:=by
 cases binds with
 | nil=>exact wpAny_newFunctionEnv_cells hk hkind fun env he s' x=>hQ env he s' x (by intro n v r h;cases h)
 | cons b r=>
  obtain⟨n,v⟩:=b;by_cases hl:scope.names.lookup n=some .local
  ·simp only[newFunctionEnv,Option.isSome_none,Bool.false_eq_true,if_false];refine zzwqb (wpAny_alloc ?_);refine zzwqb (wpAny_layCells _ (fun name kind cells=>by cases hkc:kind==NameKind.cell<;>simp[hkc]) _ _ _ _ ?_);have ok:=cellsFrom_ok scope.names (s.heap.push {cls:=.type "frame",data:=.dict #[]}) (s.heap.objs.size+1) [] ⟨fun _x _x hm=>(nomatch hm),List.Pairwise.nil⟩ (by rw[Heap.size_push];exact zznlr _);rw[Heap.size_push] at ok;rw[show ({s with heap:=s.heap.push {cls:=.type "frame",data:=.dict #[]}}:Shared).heap.objs.size=s.heap.objs.size+1 from Heap.size_push ..];refine zzwqb (zDF (s₀:=s) (env:=newEnv scope s.heap.objs.size globals (cellsFrom (s.heap.objs.size+1) scope.names []) qual func code none builtins)
    _ (fun _x _x _x=>rfl) hk n v r (fun _x=>none) (fun _x=>none) _ _
    ⟨⟨⟨_,_,rfl⟩,(Heap.Ns.new s.heap (.type "frame")).keeps (pushCells_keeps _ _),fun b o e=>pushCells_keeps _ _ b o (Heap.get?_push_of_some _ e),Nat.le_refl _⟩,
     fun n c hc=>(ok.empty n c (mem_of_lookup hc)).1,ok.apart,fun n c hm=>(ok.empty n c hm).2⟩ hl
    (fun y hy=>hkind y (zzlmc _ hy)) fun s' x ht=>zzwqp (hQ _ rfl s' x fun _x _x _x _x _x=>ht))
  ·exact wpAny_newFunctionEnv_cells hk hkind fun env he s' x=>hQ env he s' x (by intro n' v' r' h hl';cases h;exact absurd hl' hl)
theorem zNB {prog:Program}{w:World}{A:Around}{R:Result→Shared→Prop}{s:Shared}{name:Str}{params:Arguments}{body:List Stmt}{scope:Scope}
  {pm cd doc:Value} {a:Addr} {o:Obj} {args:List Value} {binds:List (Str×Value)}
  (hroom:A.depth<recursionLimit) (ho:s.heap.get? a=some o) (hdata:o.data=.func (docDef name params body scope pm cd doc)) (hlim:s.heap.NoLimit) (hcd:s.heap.CodeRec cd name)
  (hbind:bindArgs (docDef name params body scope pm cd doc) ⟨args,[]⟩=pure binds)
  (hkind:∀ x∈binds,scope.names.lookup x.1=some .local∨(scope.names.lookup x.1=some .cell∧((cellsFrom (s.heap.objs.size+1) scope.names []).lookup x.1).isSome=true))
  (h:∀ h₁ tk,s.toks≤tk→(∀ n v r,binds=(n,v)::r→scope.names.lookup n=some .local→s.toks<tk)→Fr s.heap s.heap.objs.size h₁ (bindL (envOfC name scope s.heap.objs.size a cd).kindOf binds fun _x=>none)→
   Cl s.heap.objs.size (cellsFrom (s.heap.objs.size+1) scope.names []) h₁ (bindC (envOfC name scope s.heap.objs.size a cd).kindOf binds fun _x=>none)→
   wpAny (model prog w) (A.deeper (envOfC name scope s.heap.objs.size a cd)) (execs body (envOfC name scope s.heap.objs.size a cd))
    (fun f s'=>R (.ok (.ret (match f with | .ret v=>v | _=>.none))) s') (fun _x _x=>False) {s with heap:=h₁,toks:=tk})
  (hco:scope.isCoroutine=false) (hgen:scope.isGenerator=false) (hk:scope.kind=.function):
  codeAny (model prog w) A (.call (.ref a) ⟨args,[]⟩) R s:=by
 refine codeAny_call_function (fd:=docDef name params body scope pm cd doc) (body:=body) hroom ho hdata hco hgen rfl hcd ?_;rw[hbind];refine zzwqp (zAg (zznlr _) (zznlr _) (zGV hk hkind fun env he s' x hst _x htk=>?_));subst he;refine⟨hlim.keeps x.toInCall.keep,codeAny_func ?_⟩;refine ze22 x.done fun h₁ tk z4 _=>?_;subst z4;exact zzwqm (h h₁ tk htk hst ⟨x.toInCall.ns,x.toInCall.keep,x.toInCall.fresh⟩ ⟨x.cell,x.apart,x.above⟩) (fun _x _x x=>x) fun _x _x x=>x.elim
theorem zNi {g:GC}{j:Nat}{fs:FS}{name:Str}{params:Arguments}{body:List Stmt}{scope:Scope}{ps:List Str}{n:Nat}{extra:Nat→List Slot}{T:List Addr→Shared→Shared→(Addr→Prop)→List V→Value→Prop}
  (hG:GOk g) (hat:FnAt g name params body scope fs.code) (hfs:FsOk fs ps n) (hsc:fs.scope=scope) (hbind:∀ pm cd doc (vs:List Value),vs.length=ps.length→bindArgs (docDef name params body scope pm cd doc) ⟨vs,[]⟩=pure (ps.zip vs))
  (hex:∀ k,(extra k).length+ps.length=n∧∀ sl∈extra k,sl=.undef∨sl=.cnt k)
  {D:List V→Prop} (hF:∀ xs,D xs→xs.length=ps.length)
  (hb:∀ (A:Around) (ids:List Addr) (Wo:Addr→Prop) (env:Env) (gh:Gh) (η:List Slot) (kp:Addr→Option Obj) (s:Shared) (xs:List V),AOk j A→EnvOk fs env→Rel g ids Wo env fs.vm gh η kp s→D xs→η=xs.map .val++extra ids.length→
   wpAny (model g.prog g.w) A (execs body env) (fun f s'=>∃ v ids' gh' η',f=.ret v∧(∀ (n:Nat) (a:Addr),ids[n]? = some a→ids'[n]? = some a)∧Rel g ids' Wo env fs.vm gh' η' kp s'∧T ids' s s' (Wt g Wo env gh' η') xs v) Fl s):∃ fv,g.mg name=some (.ref fv)∧(∃ o fd,g.h0.get? fv=some o∧o.data=.func fd)∧
 ∀ (A:Around) (ids:List Addr) (W:Addr→Prop) (s:Shared) (vs:List Value) (xs:List V),AOk (j+1) A→St0 g ids W {s with toks:=s.toks+1}→(0<s.toks∨∃ x l,ps=x::l∧scope.names.lookup x=some .local)→RL ids s.heap W vs xs→D xs→
  wpAny (model g.prog g.w) A (call (.ref fv) vs) (fun v s'=>Ext g s s'∧∃ ids' s₁ Wf,(∀ (n:Nat) (a:Addr),ids[n]? = some a→ids'[n]? = some a)∧(∀ b,W b→Wf b)∧s.heap.objs.size≤s₁.heap.objs.size∧T ids' s₁ s' Wf xs v) Fl s:=by
 obtain⟨fv,o,pm,cd,doc,hm,ho,hd,hcd,hco⟩:=hat;refine⟨fv,hm,⟨o,_,ho,hd⟩,fun A ids W s vs xs hA hS h0 hr hx=>?_⟩;have hlen:=hF xs hx;have hvl:vs.length=ps.length:=hr.length.trans hlen;have hA2:=hA.2;refine zAg (zznlr _) (zznlr _) (wpAny_call (zNB (binds:=ps.zip vs) hA.depth (hS.keep0 _ _ ho) hd (hG.lim.keeps hS.keep0) (hcd.keeps hS.keep0) (hbind pm cd doc vs hvl) (fun b hbm=>?_) (fun h₁ tk htk hst Fr1 C1=>?_) (hsc▸hfs.co) (hsc▸hfs.gen) (hsc▸hfs.kind)))
 ·have hmem:=(List.of_mem_zip hbm).1;rcases hfs.par b.1 hmem with h | h
  ·exact .inl (hsc▸h)
  ·exact .inr ⟨hsc▸h,zCV (.inl (hsc▸h))⟩
 ·have htk0:0<tk:=by
   rcases h0 with h0 | ⟨x,l,hpl,hlx⟩
   ·exact zznlv h0 htk
   ·cases vs with
    | nil=>rw[hpl] at hvl;cases hvl
    | cons v r'=>exact zznlu (Nat.zero_le _) (hst x v (l.zip r') (by rw[hpl];rfl) hlx)
  clear hst;generalize hL:s.heap.objs.size=L at *;obtain⟨env,henv⟩:∃ env,env=envOfC name scope L fv cd:=⟨_,rfl⟩
  rw[←henv];have hloc:env.locals=L:=by rw[henv];rfl
  have hcells:env.cells=cellsFrom (L+1) scope.names []:=by rw[henv];rfl
  have hE:EnvOk fs env:=by rw[henv];exact⟨hsc.symm,hsc▸hfs.kind,rfl,rfl,fun c q h=>⟨(hco c q h).1,(hco c q h).2.symm⟩⟩
  have hkind:∀ x,env.kindOf x=zAj fs.scope x:=fun x=>by unfold Env.kindOf zAj;rw[hE.scope]
  obtain⟨gh,hgh⟩:∃ gh:Gh,gh=⟨bindL env.kindOf (ps.zip vs) fun _x=>none,bindC env.kindOf (ps.zip vs) fun _x=>none,fun _x=>0⟩:=⟨_,rfl⟩
  obtain⟨η,hη⟩:∃ η:List Slot,η=xs.map .val++extra ids.length:=⟨_,rfl⟩
  obtain⟨kp,hkp⟩:∃ kp:Addr→Option Obj,kp=fun b=>if b=g.P then none else s.heap.get? b:=⟨_,rfl⟩
  have kps:∀ b o,kp b=some o↔b≠g.P∧s.heap.get? b=some o:=fun b o=>by
   rw[hkp];dsimp only;split<;>simp[*]
  have hez:=(hex ids.length).1;have hηl:η.length=n:=by rw[hη];simp;exact zn116 hez hlen
  have hno:∀ (i:Nat) sl l,η[i]? = some sl→sl.owned? = some l→False:=fun i sl l h1 h2=>by
   have hm:sl∈xs.map Slot.val++extra ids.length:=hη▸List.mem_of_getElem? h1;rcases List.mem_append.mp hm with hm | hm
   ·obtain⟨x,_,rfl⟩:=List.mem_map.mp hm;exact noneE h2
   ·rcases (hex ids.length).2 sl hm with rfl | rfl<;>exact noneE h2
  have hOwn:∀ b,Own env gh η b→L≤b:=fun b hb=>by
   rcases hb with h | ⟨x,h⟩ | ⟨i,sl,l,h1,h2,_⟩
   ·rw[h,hloc];exact zznlr _
   ·rw[hcells] at h;exact Nat.le_of_lt (C1.above x b (mem_of_lookup h))
   ·exact(hno i sl l h1 h2).elim
  have hPlt:g.P<L:=by obtain⟨p,hp,_⟩:=hS.tab;rw[←hL];exact Heap.lt_size hp
  have hnone:∀ b,L≤b→s.heap.get? b=none:=fun b hb=>by
   cases q:s.heap.get? b with
   | none=>rfl
   | some o=>exact absurd (Heap.lt_size q) (Nat.not_lt.mpr (hL▸hb))
  have hh0:∀ b,L≤b→g.h0.get? b=none:=fun b hb=>by
   cases q:g.h0.get? b with
   | none=>rfl
   | some o=>have:=hS.keep0 b o q;rw[hnone b hb] at this;exact noneE this
  have hw:∀ b o,s.heap.get? b=some o→¬W b→¬Wt g W env gh η b:=fun b o e hn h=>by
   rcases h with h | h | h
   ·exact hn h
   ·exact hn (h▸hS.ok.P)
   ·have:=hOwn b h;rw[hnone b this] at e;exact noneE e
  have hsz1:L<h₁.objs.size:=Fr1.ns.lt;have hLs:s.heap.objs.size≤h₁.objs.size:=by rw[hL];exact Nat.le_of_lt hsz1
  have hb1:∀ (b:Addr) (o:Obj),s.heap.get? b=some o→h₁.get? b=some o:=Fr1.keep;have hh:HExt W s.heap h₁:=fun b o _x e=>hb1 b o e
  have hR:Rel g ids W env fs.vm gh η kp {s with heap:=h₁,toks:=tk}:=
   {keep0:=fun b o e=>hb1 b o (hS.keep0 b o e)
    keep:=fun b o e=>hb1 b o ((kps b o).mp e).2
    tab:=hS.tab.keeps hb1
    gens:=hS.gens
    os:=hS.os
    ns:=by rw[hloc,hgh,henv];exact Fr1.ns
    cell:=fun x c h=>by rw[hgh,henv];exact C1.cell x c (hcells▸h)
    capart:=fun x y c h1 h2=>name_of_addr C1.apart (mem_of_lookup (hcells▸h1)) (mem_of_lookup (hcells▸h2))
    lcell:=fun x c h=>by rw[hloc];exact Nat.ne_of_gt (C1.above x c (mem_of_lookup (hcells▸h)))
    adrL:=fun i sl l h1 h2=>(hno i sl l h1 h2).elim
    adrC:=fun i sl l h1 h2=>(hno i sl l h1 h2).elim
    adrA:=fun i sl l _x _x _x h1 h2=>(hno i sl l h1 h2).elim
    adrWo:=fun i sl l h1 h2=>(hno i sl l h1 h2).elim
    off:=fun b hb=>by
     have hbL:=hOwn b hb;refine⟨?_,hh0 b hbL,fun h=>Nat.lt_irrefl _ (zznlv hPlt (h▸hbL))⟩;cases q:kp b with
     | none=>rfl
     | some o=>have:=((kps b o).mp q).2;rw[hnone b hbL] at this;exact noneE this
    offP:=⟨by cases q:kp g.P with
     | none=>rfl
     | some o=>exact absurd rfl ((kps _ o).mp q).1,hS.offP⟩
    var:=fun x i hx'=>by
     refine ze03 (hfs.var x i hx') fun hin hk hpi=>?_;have reach:Reach env x:=by
      rcases hk with h | ⟨h,hcd⟩
      ·exact .inl ((hkind x).trans h)
      ·have:=zCV (x:=x) (names:=scope.names) (n:=L+1) (acc:=[]) (.inl (hsc▸h));refine ze11 (Option.isSome_iff_exists.mp this) fun c hc=>?_;exact .inr ⟨.inl ((hkind x).trans h),hcd,c,hcells▸hc⟩
     refine⟨reach,?_⟩;have hlt:i<η.length:=hηl▸hin;refine⟨η[i],List.getElem?_eq_getElem hlt,?_⟩;by_cases hip:i<ps.length
     ·have hix:i<xs.length:=by exact hlen▸hip
      have hiv:i<vs.length:=by exact hvl▸hip
      have he:η[i]? = some (.val xs[i]):=by
       rw[hη,List.getElem?_append_left (by simpa using hix),List.getElem?_map,List.getElem?_eq_getElem hix];rfl
      have he2:η[i]=.val xs[i]:=by
       have:=zzlge hlt;rw[he] at this;exact(zzosi this).symm
      rw[he2];refine ze12 (hr.get (zzlge hix)) fun v hv rv=>?_;refine⟨v,?_,rv.mono (fun _x _x e=>e) hh hw⟩;have hpx:=hpi hip;by_cases hkl:zAj fs.scope x=some .local
      ·rw[zDX ((hkind x).trans hkl),hgh];exact zIg ((hkind x).trans hkl) hfs.nodup hpx hv
      ·rw[zBM (fun q=>hkl ((hkind x).symm.trans q)),hgh];exact zIh (fun q=>hkl ((hkind x).symm.trans q)) hfs.nodup hpx hv
     ·have he:η[i]? = (extra ids.length)[i-xs.length]?:=by rw[hη,List.getElem?_append_right (by simp;exact zn117 hlen hip)];simp
      have hm:η[i]∈extra ids.length:=by
       have:=zzlge hlt;rw[he] at this;exact List.mem_of_getElem? this
      rcases (hex ids.length).2 _ hm with q | q<;>rw[q]
      ·trivial
      ·exact rfl
    vinj:=hfs.inj
    cnt:=fun i k h=>by
     have hm:Slot.cnt k∈xs.map Slot.val++extra ids.length:=hη▸List.mem_of_getElem? h;rcases List.mem_append.mp hm with hm | hm
     ·obtain⟨x,_,q⟩:=List.mem_map.mp hm;cases q
     ·rcases (hex ids.length).2 _ hm with q | q<;>cases q;rfl
    idok:=⟨fun n a e=>let ⟨o,h1,h2⟩:=hS.idok.there n a e;⟨o,hb1 a o h1,h2⟩,hS.idok.nodup⟩
    wlt:=fun b hb=>by
     rcases hb with h | h | h
     ·exact zznlv (hS.ok.lt b h) hLs
     ·rw[h];exact Nat.lt_trans hPlt hsz1
     ·rcases h with h | ⟨x,h⟩ | ⟨i,sl,l,h1,h2,_⟩
      ·rw[h,hloc];exact hsz1
      ·obtain⟨o,ho,_⟩:=C1.cell x b (hcells▸h);exact Heap.lt_size ho
      ·exact(hno i sl l h1 h2).elim
    tk:=htk0
    idoff:=fun n a e h=>by
     refine ze12 (hS.idok.there n a e) fun o ho _=>?_;exact hw a o ho (hS.idoff n a e) h}
  have hA':AOk j (A.deeper env):=⟨hA.1,by show A.depth+1+j≤900;exact zn118 hA2,by show A.units+3+30*j≤5000;exact zn119 hA2⟩
  refine zzwqm (hb (A.deeper env) ids W env gh η kp _ xs hA' hE hR hx hη) (fun f s' q=>?_) fun _x _x h=>h;refine ze44 q fun v ids' gh' η' hf hi hR' hT=>?_;clear q;subst hf;dsimp only;intro hz2 hk2;exact⟨⟨fun b o hb e=>hR'.keep b o ((kps b o).mpr ⟨hb,e⟩),fun _x=>hR'.tab,hL▸hz2,fun _x=>hR'.gens,hR'.os.trans hS.os.symm,hk2⟩,ids',_,_,hi,fun b h=>.inl h,hL▸hLs,hT⟩
theorem FnOk.core {g:GC}{j:Nat}{fs:FS}{name:Str}{params:Arguments}{body:List Stmt}{scope:Scope}{ps:List Str}{n:Nat}{extra:Nat→List Slot}{B:List Slot→Option (Out×List Slot)}{F:List V→Option V}
  (hG:GOk g) (hat:FnAt g name params body scope fs.code) (hfs:FsOk fs ps n) (hsc:fs.scope=scope) (hbind:∀ pm cd doc (vs:List Value),vs.length=ps.length→bindArgs (docDef name params body scope pm cd doc) ⟨vs,[]⟩=pure (ps.zip vs))
  (hb:SimS g j fs body B) (hex:∀ k,(extra k).length+ps.length=n∧∀ sl∈extra k,sl=.undef∨sl=.cnt k) (hF:∀ k xs r,F xs=some r→xs.length=ps.length∧∃ η',B (xs.map .val++extra k)=some (.ret r,η'))
  (hobj:∀ k xs r,F xs=some r→zAM k xs=true→zBP k r=true):∃ fv,g.mg name=some (.ref fv)∧(∃ o fd,g.h0.get? fv=some o∧o.data=.func fd)∧
 ∀ (A:Around) (ids:List Addr) (W:Addr→Prop) (s:Shared) (vs:List Value) (xs:List V) (r:V),AOk (j+1) A→St0 g ids W {s with toks:=s.toks+1}→(0<s.toks∨∃ x l,ps=x::l∧scope.names.lookup x=some .local)→RL ids s.heap W vs xs→F xs=some r→
  wpAny (model g.prog g.w) A (call (.ref fv) vs) (PE g ids W s r) Fl s:=by
 obtain⟨fv,h1,h2,h3⟩:=zNi (T:=fun ids' _x s' Wf xs v=>∃ r,F xs=some r∧R ids' s'.heap Wf v r) (D:=fun xs=>∃ r,F xs=some r) hG hat hfs hsc hbind hex (fun xs h=>h.elim fun r h=>(hF 0 xs r h).1) (fun A ids Wo env gh η kp s xs hA hE hR hD hη=>by
  refine ze11 hD fun r hr=>?_;clear hD;refine ze11 ((hF ids.length xs r hr).2) fun η' hB=>?_;refine zzwqm (hb A ids Wo env gh η kp s (.ret r) η' hA hE hR (hη▸hB)) (fun f s' q=>?_) fun _x _x h=>h;obtain⟨ids',gh',hi,hR',hf,hz⟩:=q;cases f<;>first | exact hf.elim | skip
  exact⟨_,ids',gh',η',rfl,hi,hR',r,hr,hf⟩)
 refine⟨fv,h1,h2,fun A ids W s vs xs r hA hS h0 hr hx=>?_⟩;refine zzwqm (h3 A ids W s vs xs hA hS h0 hr ⟨r,hx⟩) (fun v s' q=>?_) fun _x _x h=>h;refine ze02 q fun e z5=>?_;clear q;refine ze34 z5 fun ids' s₁ Wf hi hw _ z6=>?_;clear z5;refine ze12 z6 fun r' hr' hT=>?_;clear z6;refine⟨e,?_⟩;rw[hx] at hr';cases hr';exact(R.back hi hT (hobj ids.length xs r hx hr.lt)).sub hw
theorem FnOk.of {g:GC}{j:Nat}{fs:FS}{name:Str}{params:Arguments}{body:List Stmt}{scope:Scope}{ps:List Str}{n:Nat}{extra:Nat→List Slot}{B:List Slot→Option (Out×List Slot)}{F:List V→Option V}
  (hG:GOk g) (hat:FnAt g name params body scope fs.code) (hfs:FsOk fs ps n) (hsc:fs.scope=scope) (hbind:∀ pm cd doc (vs:List Value),vs.length=ps.length→bindArgs (docDef name params body scope pm cd doc) ⟨vs,[]⟩=pure (ps.zip vs))
  (hb:SimS g j fs body B) (hex:∀ k,(extra k).length+ps.length=n∧∀ sl∈extra k,sl=.undef∨sl=.cnt k) (hF:∀ k xs r,F xs=some r→xs.length=ps.length∧∃ η',B (xs.map .val++extra k)=some (.ret r,η'))
  (hobj:∀ k xs r,F xs=some r→zAM k xs=true→zBP k r=true):FnOk g (j+1) name F:=by
 refine ze13 (FnOk.core hG hat hfs hsc hbind hb hex hF hobj) fun fv h1 h2 h3=>?_;exact⟨fv,h1,h2,fun A ids W s vs xs r hA hS=>h3 A ids W s vs xs r hA ⟨hS.keep0,hS.tab,hS.gens,hS.os,hS.offP,hS.idok,⟨hS.ok.P,hS.ok.lt⟩,Nat.succ_pos _,hS.idoff⟩ (.inl hS.tk)⟩
theorem FnOk.mono {g:GC}{j k:Nat}{name F}(h:FnOk g j name F)(hjk:j≤k):FnOk g k name F:=by
 refine ze13 h fun fv hm ho hc=>?_;clear h;refine⟨fv,hm,ho,fun A ids W s vs xs r hA=>hc A ids W s vs xs r ⟨hA.1,?_,?_⟩⟩
 ·have:=hA.2.1;exact zn120 this hjk
 ·have:=hA.2.2;exact zn121 this hjk
theorem zJH {M:Model}{fv:Addr}{h:Heap}{o:Obj}{fd}(e:h.get? fv=some o)(hd:o.data=.func fd):Looks M h (keeperOf (.ref fv)) .frame:=by
 refine(Looks.ld (part:=none) e).andThen ?_;simp only[hd];exact .now
section
variable {g:GC} {j:Nat} {fs fsC:FS}
theorem zPQ {name:Str}{np pos}{e:Expr}{rest:List Expr}{f:List Slot→Option (List V)}{F:List V→Option V}(hG:GOk g)(hk:zAj fs.scope name=some .globalImplicit)(hF:FnOk g j name F)
  (ha:SimA g j fs pos (e::rest) f) (hn:notStar e=true) (hns:∀ env,(backTo pos (starEach rest env)).any (·.1)=false) (hd:(name==("__debug__":Str))=false):
  SimE g j fs (.Call (.Name name np) (e::rest) [] pos) (fun η=>(f η).bind F):=by
 intro A ids Wo env gh η kp s x hA hE hR hx;refine zbd hx fun ys hf hx=>?_;refine ze13 hF fun fv hm z0 hc=>?_;clear hF;refine ze22 z0 fun o fd ho hdt=>?_;clear z0;refine wpAny_Call_ofName (wpAny_Name (zCh hG hE hR hk hm ?_) hd);have h1:=ha A ids Wo env gh η kp s ys hA hE hR hf;rw[zAa hn] at h1 ⊢;refine callWith_of (P:=fun h=>h.get? fv=some o) (by show ((false||(backTo pos (starEach rest env)).any (·.1))||false)=false;rw[hns];rfl) (fun h e=>⟨_,.inl rfl,zJH e hdt⟩) (evalArgs_plain ?_);refine zzwqm h1 (fun vs s₁ q=>?_) fun _x _x h=>h;refine ze02 q fun e1 r1=>?_;clear q;have hR1:=hR.ext e1;refine⟨hR1.keep0 _ _ ho,?_⟩;exact zzwqm (hc A ids _ s₁ ([]++vs) ys x hA hR1.st0 r1 hx) (fun v s₂ q=>⟨e1.trans q.1,q.2⟩) fun _x _x h=>h
end
section
variable {prog:Program} {w:World} {A:Around}
noncomputable def QElt (prog:Program)(w:World)(cenv:Env)(x:Str)(elt:Expr)(fp wr:List Addr)(P:Nat→Value→Prop)(F:Nat→Value→Prop)(href:Heap):Prop:=
 ∀ (A':Around) E' i v (s₂:Shared) m₂,A'.handled=none→P i v→0<s₂.toks→s₂.heap.Ns cenv.locals m₂→m₂ x=some v→(∀ b∈fp,b∉wr→∀ o,href.get? b=some o→s₂.heap.get? b=some o)→
  wpAny (model prog w) A' (eval elt cenv) (fun y s₃=>F i y∧Keeps s₂ s₃) E' s₂
noncomputable abbrev pAll:Nat→Bool:=fun _=>true
theorem zKM {elt iter:Expr}{x:Str}{px:Pos}{scope:Scope}{pos:Pos}{I:Addr}{fp wr:List Addr}{n₀:Nat}{P:Nat→Value→Prop}{St₀:Nat→Heap→Prop}{cenv:Env}
  (hh:A.handled=none) (W₀:∀ A':Around,A'.handled=none→Walks prog w A' I fp wr n₀ P St₀) (F:Nat→Value→Prop) (href:Heap)
  (hx:cenv.kindOf x=some .local) (hp:(cenv.scope.kind==.class||(cenv.scope.kind==.module&&cenv.locals != cenv.globals))=false)
  (hco:cenv.scope.isCoroutine=false) (hCf:cenv.locals∉fp) (hq:QElt prog w cenv x elt fp wr P F href):
  ∀ (k i:Nat) (s₀ s:Shared) (m:Str→Option Value),n₀-i=k→i≤n₀→St₀ i s.heap→s.heap.Ns cenv.locals m→GenSince cenv.locals wr s₀ s→
   (∀ b∈fp,b∉wr→∀ o,href.get? b=some o→s.heap.get? b=some o)→
   Seg (model prog w) A (fun n s₀ r s₁=>r=.ok .next∧(n=0∧GenSince cenv.locals wr s₀ s₁)) (genProto cenv.locals fp wr pAll n₀ F) (passing pAll n₀ i).length s₀
    (.compLoop (.GeneratorExp elt [⟨.Name x px,iter,[],0⟩] scope pos) 0 (.ref I) .none cenv)
    ((model prog w).den (.compLoop (.GeneratorExp elt [⟨.Name x px,iter,[],0⟩] scope pos) 0 (.ref I) .none cenv)) [] s:=by
 have hh':(A.over (.compLoop (.GeneratorExp elt [⟨.Name x px,iter,[],0⟩] scope pos) 0 (.ref I) .none cenv) []).handled=none:=hh;have hCw:cenv.locals∉wr:=fun h=>hCf ((W₀ A hh).sub _ h);intro k
 induction k with
 | zero=>
  intro i s₀ s m hk hi hst hn hsince hkp;have hin:i=n₀:=by exact zn122 hk hi
  subst hin;show Seg _ A _ _ _ s₀ _ ((compTurn (.GeneratorExp elt [⟨.Name x px,iter,[],0⟩] scope pos) 0 (.ref I) .none cenv).onRaise (leaving cenv)) [] s;rw[compTurn_gen,Sem.onRaise_eq_wrap];refine seg_bind_wrap (wpAny_standAt ?_);refine seg_bind_wrap ((W₀ _ hh').done s _ _ hst fun h' tk hk'=>?_);exact seg_end (.ok .next) ⟨rfl,by rw[passing_end];rfl,hsince.step fun b o _x hw e=>hk' b o hw e⟩
 | succ k ih=>
  intro i s₀ s m hk hi hst hn hsince hkp;have hlt:i<n₀:=by exact zn123 hk
  show Seg _ A _ _ _ s₀ _ ((compTurn (.GeneratorExp elt [⟨.Name x px,iter,[],0⟩] scope pos) 0 (.ref I) .none cenv).onRaise (leaving cenv)) [] s;rw[compTurn_gen,Sem.onRaise_eq_wrap];refine seg_bind_wrap (wpAny_standAt ?_);refine seg_bind_wrap ((W₀ _ hh').item i s _ _ hlt hst fun v h₁ tk₁ hPv hst₁ hk₁=>?_);refine seg_bind_wrap (wpAny_of_eq (rfl:letOwnedTupleGo (.Name x px) (.ref I) v=pure ()) ?_);refine seg_bind_wrap (wpAny_assign_Name (wpAny_storeName_local hx (hn.at' fun o e=>hk₁ _ o hCw e) (fun h₂ hn₂ hs₂=>?_) hp));have up₂:∀ b o,b≠cenv.locals→b∉wr→s.heap.get? b=some o→h₂.get? b=some o:=fun b o hbC hbw e=>hs₂.extBut b o hbC (hk₁ b o hbw e);have hst₂:St₀ (i+1) h₂:=(W₀ A hh).frame _ _ _ hst₁ fun b hb o e=>hs₂.extBut b o (fun h=>hCf (h▸hb)) e;have hkp₂:∀ b∈fp,b∉wr→∀ o,href.get? b=some o→h₂.get? b=some o:=fun b hb hbw o e=>up₂ b o (fun h=>hCf (h▸hb)) hbw (hkp b hb hbw o e);refine seg_bind_wrap (zzwqp ?_);have hsince₃:GenSince cenv.locals wr s₀ {s with heap:=h₂,toks:=tk₁+1}:=hsince.step fun b o hbC hbw e=>up₂ b o hbC hbw e;rw[passing_true hlt rfl,List.length_cons];simp only[if_true];have hy:∀ v,yieldOut cenv v=yieldValue v:=fun v=>by simp only[yieldOut,hco,Bool.false_eq_true,if_false]
  simp only[hy];rw[Sem.bind_eq_wrap',Sem.bind_eq_wrap',Sem.wrap_wrap,Sem.wrap_wrap];refine seg_wrap (zzwqm (hq _ _ i v _ _ hh' hPv (Nat.succ_pos _) hn₂ (by simp) fun b hb hbw o e=>hkp₂ b hb hbw o e) (fun y s₄ h₄=>?_) fun _x _x e=>e);refine ze02 h₄ fun hFy z1=>?_;clear h₄;refine ze22 z1 fun h₄ tk₄ z2 hk₄=>?_;clear z1;subst z2;refine seg_at (seg_yield rfl rfl rfl ⟨⟨i,passing_here hlt rfl,hFy⟩,hsince₃.step fun b o _x _x e=>hk₄ b o e,fun s'' hal=>?_⟩);refine seg_again rfl (ih (i+1) s'' s'' _ (by (clear hi;exact zn124 hk)) hlt ((W₀ A hh).frame _ _ _ hst₂ fun b hb o e=>hal b (zzlmc _ hb) o (hk₄ b o e))
   ((hn₂.keeps hk₄).at' fun o e=>hal _ (zzlms ..) o e) (GenSince.refl _ _ _) fun b hb hbw o e=>hal b (zzlmc _ hb) o (hk₄ b o (hkp₂ b hb hbw o e)))
theorem zJf {elt iter:Expr}{x:Str}{px:Pos}{scope:Scope}{pos:Pos}{I:Addr}{fp wr:List Addr}{n₀:Nat}{P:Nat→Value→Prop}{St₀:Nat→Heap→Prop}{cenv:Env}
  (hh:A.handled=none) (W₀:∀ A':Around,A'.handled=none→Walks prog w A' I fp wr n₀ P St₀) (F:Nat→Value→Prop) (href:Heap)
  (hx:cenv.kindOf x=some .local) (hp:(cenv.scope.kind==.class||(cenv.scope.kind==.module&&cenv.locals != cenv.globals))=false)
  (hco:cenv.scope.isCoroutine=false) (hCf:cenv.locals∉fp) (hq:QElt prog w cenv x elt fp wr P F href)
  (s₀ s:Shared) (m:Str→Option Value) (hst:St₀ 0 s.heap) (hn:s.heap.Ns cenv.locals m) (hsince:GenSince cenv.locals wr s₀ s)
  (hkp:∀ b∈fp,b∉wr→∀ o,href.get? b=some o→s.heap.get? b=some o):
  Seg (model prog w) A (fun n s₀ r s₁=>r=.ok .next∧(n=0∧GenSince cenv.locals wr s₀ s₁)) (genProto cenv.locals fp wr pAll n₀ F) (passing pAll n₀ 0).length s₀
   (.compStart (.GeneratorExp elt [⟨.Name x px,iter,[],0⟩] scope pos) 0 (.ref I) .none cenv)
   ((model prog w).den (.compStart (.GeneratorExp elt [⟨.Name x px,iter,[],0⟩] scope pos) 0 (.ref I) .none cenv)) [] s:=by
 have hh':(A.over (.compStart (.GeneratorExp elt [⟨.Name x px,iter,[],0⟩] scope pos) 0 (.ref I) .none cenv) []).handled=none:=hh;have loop:=zKM (iter:=iter) (px:=px) (scope:=scope) (pos:=pos) hh W₀ F href hx hp hco hCf hq n₀ 0 s₀ s m (Nat.sub_zero _) (Nat.zero_le _) hst hn hsince hkp;show Seg _ A _ _ _ s₀ _ ((compStart (.GeneratorExp elt [⟨.Name x px,iter,[],0⟩] scope pos) 0 (.ref I) .none cenv).onRaise (leaving cenv)) [] s;unfold compStart;rw[Sem.onRaise_eq_wrap];show Seg _ A _ _ _ s₀ _ ((ask >>= _).wrap _ _ _ _) [] s;refine seg_bind_wrap (wpAny_askSetting ?_);split
 ·exact seg_again rfl loop
 ·first
   | exact seg_bind_wrap (wpAny_rule (seg_bind_wrap (wpAny_standAt (seg_bind_wrap ((W₀ _ hh').self 0 s _ _ hst (seg_again rfl loop))))))
   | (refine seg_bind_wrap (wpAny_rule ?_);show Seg _ A _ _ _ s₀ _ ((standAt iter.pos >>= _).wrap _ _ _ _) [] s;exact seg_bind_wrap (wpAny_standAt (seg_bind_wrap ((W₀ _ hh').self 0 s _ _ hst (seg_again rfl loop)))))
theorem zHl {elt iter:Expr}{x:Str}{px:Pos}{scope:Scope}{pos:Pos}{I a:Addr}{g:Nat}{fp wr:List Addr}{n₀:Nat}{P:Nat→Value→Prop}{St₀:Nat→Heap→Prop}{cenv:Env}
  (hh:A.handled=none) (W₀:∀ A':Around,A'.handled=none→Walks prog w A' I fp wr n₀ P St₀) (F:Nat→Value→Prop)
  (hx:cenv.kindOf x=some .local) (hp:(cenv.scope.kind==.class||(cenv.scope.kind==.module&&cenv.locals != cenv.globals))=false)
  (hco:cenv.scope.isCoroutine=false) (hCf:cenv.locals∉fp) {s:Shared} {m:Str→Option Value} (hq:QElt prog w cenv x elt fp wr P F s.heap)
  (hg:s.heap.IsGen a g) (hgs:s.gens[g]? = some (.fresh (.compStart (.GeneratorExp elt [⟨.Name x px,iter,[],0⟩] scope pos) 0 (.ref I) .none cenv)))
  (hst:St₀ 0 s.heap) (hn:s.heap.Ns cenv.locals m) (hl:s.heap.NoLimit):GenAt prog w A a g cenv.locals fp wr pAll n₀ F 0 s:=
 ⟨hg,hl,_,hgs,fun s'' hal=>⟨rfl,zJf (A:=A.in1) hh W₀ F s.heap hx hp hco hCf hq s'' s'' m ((W₀ A hh).frame _ _ _ hst fun b hb o e=>hal b (zzlmc _ hb) o e)
  (hn.at' fun o e=>hal _ (zzlms ..) o e) (GenSince.refl _ _ _) fun b hb _x o e=>hal b (zzlmc _ hb) o e⟩⟩
theorem zD6 (n:Nat):passing pAll n 0=List.range n:=by
 unfold passing;rw[List.drop_zero,List.filter_eq_self];exact fun _x _x=>rfl
end
section
variable {prog:Program} {w:World} {A:Around} {E:Value→Shared→Prop} {s:Shared}
theorem zGm {env:Env}{elt iter:Expr}{x:Str}{px:Pos}{scope:Scope}{cl:List (Str×Addr)}{pos:Pos}{Q:Value→Shared→Prop}
  (hh:A.handled=none) (hco:scope.isCoroutine=false) (hclos:closureFor scope env=pure cl) (hcell:∀ y∈scope.names,y.2≠.cell) (h0:scope.names.lookup (".0":Str)=some NameKind.local)
  (hx:scope.names.lookup x=some .local) (hkind:scope.kind=.function) (hroom:A.depth<recursionLimit)
  (h:wpAny (model prog w) A (eval iter env) (fun xv s₁=>wpAny (model prog w) A (pyIter xv) (fun it s₂=>s₂.heap.NoLimit∧
   wpAny (model prog w) A (genexprCode env pos (env.qual++"<genexpr>") scope) (fun code s₃=>wpAny (model prog w) A (builtinsFor env.globals env.builtins) (fun bi s₄=>
    ∃ I fp wr n₀ P St₀ F,it=.ref I∧(∀ A':Around,A'.handled=none→Walks prog w A' I fp wr n₀ P St₀)∧St₀ 0 s₄.heap∧(∀ b∈fp,b<s₄.heap.objs.size)∧s₄.heap.NoLimit∧cStatics∉wr∧
     (∀ href:Heap,(∀ b o,s₄.heap.get? b=some o→href.get? b=some o)→
      QElt prog w (genEnv scope cl s₄.heap.objs.size code bi env) x elt (List.range s₄.heap.objs.size) wr P F href)∧
     (∀ a h₅ tk gs,gs.bare=true→s₄.heap.objs.size<a→h₅.objs.size=a+1→s₄.toks≤tk→(∀ b o,s₄.heap.get? b=some o→h₅.get? b=some o)→
      WalksS prog w A.in4 a (a::s₄.heap.objs.size::List.range s₄.heap.objs.size) (s₄.heap.objs.size::wr) (GenOnlyQ s₄.gens.size) n₀
       (fun j y=>F j y) (GenAt prog w A.in4 a s₄.gens.size s₄.heap.objs.size (List.range s₄.heap.objs.size) wr pAll n₀ F)→
      GenAt prog w A.in4 a s₄.gens.size s₄.heap.objs.size (List.range s₄.heap.objs.size) wr pAll n₀ F 0 {s₄ with gens:=s₄.gens.push gs,toks:=tk,heap:=h₅}→
      Q (.ref a) {s₄ with gens:=s₄.gens.push gs,toks:=tk,heap:=h₅})) E s₃) E s₂) E s₁) E s)
  (hs:∀ x,genFold iter env x=pure x):
  wpAny (model prog w) A (eval (.GeneratorExp elt [⟨.Name x px,iter,[],0⟩] scope pos) env) Q E s:=by
 refine wpAny_GeneratorExp_make hco hclos hcell h0 hkind hroom (zzwqm h (fun xv s₁ h₁=>zzwqm h₁ (fun it s₂ h₂=>⟨h₂.1,wpAny_mono h₂.2 (fun code s₃ h₃=>zzwqm h₃ (fun bi s₄ h₄=>?_)
  fun _x _x e=>e) fun _x _x e=>e⟩) fun _x _x e=>e) fun _x _x e=>e) hs
 obtain⟨I,fp,wr,n₀,P,St₀,F,rfl,W₀,hst,hfp,hl₄,hcw,hq,hQ⟩:=h₄;have hclt:cStatics<s₄.heap.objs.size:=let ⟨_,hn,_⟩:=hl₄;hn.lt;intro h' hn' hs';have hsz:h'.objs.size=s₄.heap.objs.size+1:=by rw[hs'.1,Heap.size_push]
 have keep':∀ b o,s₄.heap.get? b=some o→h'.get? b=some o:=fun b o e=>hs'.extBut b o (Nat.ne_of_lt (Heap.lt_size e)) (Heap.get?_push_of_some _ e);have hsub:∀ b∈wr,b∈List.range s₄.heap.objs.size:=fun b hb=>List.mem_range.mpr (hfp b ((W₀ A hh).sub b hb));have haC:h'.objs.size≠s₄.heap.objs.size:=by rw[hsz];exact Nat.succ_ne_self _
 have haf:h'.objs.size∉List.range s₄.heap.objs.size:=fun hm=>by have:=List.mem_range.mp hm;exact zn125 this hsz
 have keep₅:∀ b o,s₄.heap.get? b=some o→(h'.push {cls:=.type "generator",data:=.fields #[.int s₄.gens.size 0,.str "<genexpr>" (s₄.toks+1),.str (env.qual++"<genexpr>") (s₄.toks+1+1)]}).get? b=some o:=
  fun b o e=>Heap.get?_push_of_some _ (keep' b o e)
 have W1:=WalksS.genexpQ (prog:=prog) (w:=w) (A:=A.in4) hh h'.objs.size s₄.gens.size s₄.heap.objs.size (List.range s₄.heap.objs.size) wr pAll n₀ F haC haf hsub hroom (List.mem_range.mpr hclt) (Nat.ne_of_lt hclt) hcw;have hlen:(passing pAll n₀ 0).length=n₀:=by rw[zD6,List.length_range]
 rw[hlen] at W1;have W2:WalksS prog w A.in4 h'.objs.size (h'.objs.size::s₄.heap.objs.size::List.range s₄.heap.objs.size) (s₄.heap.objs.size::wr) (GenOnlyQ s₄.gens.size) n₀ (fun j y=>F j y) (GenAt prog w A.in4 h'.objs.size s₄.gens.size s₄.heap.objs.size (List.range s₄.heap.objs.size) wr pAll n₀ F):=
  {sub:=W1.sub,grefl:=W1.grefl,gtrans:=W1.gtrans,frame:=W1.frame,done:=W1.done,self:=W1.self
   item:=fun j s Q E hj st hQ=>W1.item j s Q E hj st fun v s' ⟨i,hi,hF⟩=>hQ v s' (by
    rw[zD6,List.getElem?_range hj] at hi;cases hi;exact hF)}
 refine hQ _ _ _ _ rfl (Nat.le_of_eq hsz.symm) (by rw[Heap.size_push]) zn127 keep₅ W2 ?_;refine zHl (A:=A.in4) (cenv:=genEnv scope cl s₄.heap.objs.size code bi env) (m:=fun y=>if y = ".0" then some (.ref I) else none) hh
  (fun A' hA=>(W₀ A' hA).mono_fp fun b hb=>List.mem_range.mpr (hfp b hb)) F hx (by simp[genEnv,hkind]) hco
  (fun hm=>Nat.lt_irrefl _ (List.mem_range.mp hm)) (hq _ keep₅) ⟨_,_,_,Heap.get?_push_size _ rfl,rfl,rfl,rfl⟩ (Array.getElem?_push_size ..) ((W₀ A hh).frame _ _ _ hst fun b _x o e=>keep₅ b o e) (hn'.push _) (hl₄.keeps keep₅)
end
end Mine.Internal
end
noncomputable section
open PySem PySem.W PySem.Calls PyProof.Rows
open PySem.Builtin PySem.Builtin.Str
namespace Mine.Internal
set_option tactic.hygienic true in
theorem zCT {pos pos':Pos}{c' cv:Value}:∀ {l:List Value},TriplesOk l→codeAmong pos' (l++[rawInt pos.line,rawInt pos.col,c'])=some cv→codeAmong pos' l=some cv∨(cv=c'∧pos.line=pos'.line∧pos.col=pos'.col):=by
 intro l h
 fun_induction TriplesOk l with
 | case1=>
  intro e;simp only[List.nil_append,codeAmong,rawInt] at e;split at e
  ·rename_i q;simp at q;cases e;exact .inr ⟨rfl,by exact zn128 q,by exact zn129 q⟩
  ·exact noneE e
 | case2 a t b u x rest ih=>
  intro e;simp only[List.cons_append,codeAmong] at e ⊢;split at e
  ·rename_i q;rw[if_pos q];exact .inl e
  ·rename_i q;rw[if_neg q];exact ih h e
 | case3 l h1 h2=>exact h.elim
structure GenOk (g:GC)(c:Addr):Prop where
 hd:CodeHd g.h0 c g.P
 mod:∃ bm ob,BMod g.h0 mainGlobals g.mg bm ob
section
variable {g:GC} {j:Nat} {fs:FS}
theorem TabOk.grown {h h':Heap}{ps:Array Value}{pos:Pos}{q:Str}{c':Addr}(hc:TriplesOk ps.toList)(hk:∀ pos cv,codeAmong pos ps.toList=some cv→∃ c q,cv=.ref c∧c≠g.P∧(∃ p,(p,q)∈g.known∧p.line=pos.line∧p.col=pos.col)∧h.CodeRec cv q)
  (hx:Heap.ExtBut g.P h h') (hP:h'.get? g.P=some (tabObj (ps++#[rawInt pos.line,rawInt pos.col,.ref c']))) (hr:h'.CodeRec (.ref c') q) (hcP:c'≠g.P) (hkn:(pos,q)∈g.known):TabOk g h':=by
 have hl:(ps++#[rawInt pos.line,rawInt pos.col,Value.ref c']).toList=ps.toList++[rawInt pos.line,rawInt pos.col,.ref c']:=by simp
 refine⟨_,hP,by rw[hl];exact TriplesOk_snoc _ _ _ _ hc,fun pos' cv e=>?_⟩;rw[hl] at e;rcases zCT hc e with e | ⟨rfl,e1,e2⟩
 ·refine ze24 (hk pos' cv e) fun c q' z3 h1 h2 h3=>?_;subst z3;exact⟨c,q',rfl,h1,h2,zIH h3 h1 fun b o hb e=>hx b o hb e⟩
 ·exact⟨c',q,rfl,hcP,⟨pos,hkn,e1,e2⟩,hr⟩
theorem zK9 {A:Around}{E:Value→Shared→Prop}{s:Shared}{env:Env}{c:Addr}{pos:Pos}{q:Str}{scope:Scope}{Q:Value→Shared→Prop}(hG:GenOk g c)(hcode:env.code=.ref c)(h0:∀ b o,g.h0.get? b=some o→s.heap.get? b=some o)(hT:TabOk g s.heap)(hkn:(pos,q)∈g.known)
  (h:∀ cv h' tk,Heap.ExtBut g.P s.heap h'→s.heap.objs.size≤h'.objs.size→TabOk g h'→Q cv {s with heap:=h',toks:=tk}):wpAny (model g.prog g.w) A (genexprCode env pos q scope) Q E s:=by
 refine ze13 (id hT) fun ps hP hts hk=>?_;have hd:=hG.hd.keeps h0;have hcP:c≠g.P:=by obtain⟨_,_,_,_,_,_,_,_,_,_,_,_,_,_,_,_,_,_,e⟩:=hd;exact e
 cases hf:codeAmong pos ps.toList with
 | some cv=>exact wpAny_genexprCode_hit hcode (hd.code hP hts) hf (h cv s.heap s.toks (fun _x _x _x e=>e) (zznlr _) hT)
 | none=>
  refine wpAny_genexprCodeX hcode (hd.code hP hts) (hd.tab hP) hf fun c' h' tk hx hge hlt hc1 hr ht _x=>h _ h' tk hx (Nat.le_of_lt (zznlu hge hlt)) ?_;exact TabOk.grown hts hk hx ht.2 hr (fun e=>Nat.lt_irrefl _ (zznlv (e▸Heap.lt_size hP) hge)) hkn
noncomputable def QStr (g:GC)(sc:Scope)(x:Str)(e:Expr)(f:List Nat→Option (List Nat)):Prop:=
 ∀ (A:Around) (E:Value→Shared→Prop) (env:Env) (s:Shared) (m:Str→Option Value) (l r:List Nat) (t:Tok),A.handled=none→env.scope=sc→s.heap.Ns env.locals m→m x=some (.str (ms l) t)→(∀ c∈l,c<1114112)→0<s.toks→f l=some r→
  wpAny (model g.prog g.w) A (eval e env) (fun y s₁=>(∃ u,y=.str (ms r) u)∧(∀ c∈r,c<1114112)∧Keeps s s₁∧s.toks≤s₁.toks) E s
theorem QStr.name {sc:Scope}{x:Str}{p:Pos}(hk:sc.kind=.function)(hx:sc.names.lookup x=some .local)(hd:(x==("__debug__":Str))=false):QStr g sc x (.Name x p) some:=by
 intro A E env s m l r t hA he hn hm hl ht hf;cases hf;refine wpAny_Name (wpAny_loadName_local (he▸hk) (by unfold Env.kindOf;rw[he];exact hx) hn hm ?_) hd;exact⟨⟨t,rfl⟩,hl,⟨s.heap,s.toks,rfl,fun _x _x e=>e⟩,Nat.le_refl _⟩
set_option tactic.hygienic true in
theorem QStr.replace {sc:Scope}{v:Str}{o:Expr}{ap pos k1 k2 p1 p2}{x y:Str}{c:Nat}{z:List Nat}{f}(ho:QStr g sc v o f)(hx:x=⟨#[c]⟩)(hy:y.cps.toList=z)(hc:(z.all fun c=>decide (c<1114112))=true)(hz:z.length≤10)(hne:(⟨#[c]⟩==y)=false)
  (hb:∀ env,attributeBase o "replace" env (eval o env)=eval o env) (hline:(ap.endLine==pos.line)=true):
  QStr g sc v (.Call (.Attribute o "replace" ap) [.Constant (.str x) k1 p1,.Constant (.str y) k2 p2] [] pos) (fun l=>(f l).bind fun r=>if r.length≤100000 then some (subst c z r) else none):=by
 intro A E env s m l r t hA he hn hm hl ht hx';refine zbd hx' fun w hf hx'=>?_;split at hx'
 case isFalse=>exact noneE hx'
 rename_i hlen0;cases hx';subst hx;have htr:backTo pos (starEach [.Constant (.str ⟨#[c]⟩) k1 p1,.Constant (.str y) k2 p2] env)=[(false,eval (.Constant (.str ⟨#[c]⟩) k1 p1) env),(false,eval (.Constant (.str y) k2 p2) env)]:=by rw[zAa rfl,zAa rfl];rfl
 refine wpAny_Call_method_late (hb env) (by rw[htr];rfl) hline rfl (zzwqm (ho A E env s m l w t hA he hn hm hl ht hf) (fun a s₁ q=>?_) fun _x _x h=>h);refine ze04 q fun z4 c1 k1' t1=>?_;clear q;refine ze11 z4 fun u hu=>?_;clear z4;subst hu;refine⟨"str","str.replace",PySem.F.plainAttrs_str,PySem.F.slot_str_replace,PySem.F.type_str_replace,typeIs_str _ _ _,fun a q=>(by cases q),?_⟩;refine zAn rfl (zAW rfl zAD) ?_;rw[zAa rfl,zAa rfl];refine Calls.spliced_cons (wpAny_Constant_str (k:=k1) (pos:=p1) ?_);refine Calls.spliced_cons (wpAny_Constant_str (k:=k2) (pos:=p2) ?_);refine Calls.spliced_nil ?_;have hlen:(ms w).length=w.length:=by simp[Str.length]
 have hyl:y.length=z.length:=by rw[←hy];simp[Str.length]
 have hp:0<s₁.toks:=zznlv ht t1;refine zzwqm (wpAny_toks (SC.replace (E:=E) (Q:=fun v' s'=>(∃ u,v'=.str (ms (subst c z w)) u)∧∃ k,s'={s₁ with toks:=k}) (Nat.pos_iff_ne_zero.mp hp) (Nat.succ_ne_zero _) (Nat.ne_of_lt (Nat.lt_succ_self _)) hne (by rw[hlen,hyl];exact zznlt (Nat.add_le_add hlen0 (Nat.mul_le_mul (Nat.add_le_add_right hlen0 1) hz)) (by decide)) fun t' k=>⟨⟨t',?_⟩,k,rfl⟩)) (fun v' s' ⟨h1,h2,k,h3⟩=>⟨h2,fun d hd=>?_,?_,?_⟩) fun _x _x h=>h.2
 ·have e3:Txt.replace (ms w) ⟨#[c]⟩ y=ms (subst c z w):=by
   have:=zCz (ms w) y c;rw[hy] at this;show _=(⟨(subst c z w).toArray⟩:Str);rw[←this]
  rw[e3]
 ·refine ze12 (List.mem_flatMap.mp hd) fun b hb1 hb2=>?_;split at hb2
  ·exact zzode (List.all_eq_true.mp hc d hb2)
  ·have:d=b:=by simpa using hb2
   exact c1 d (this▸hb1)
 ·subst h3;refine ze22 k1' fun h₁ tk₁ z5 hk=>?_;clear k1';subst z5;exact⟨h₁,k,rfl,hk⟩
 ·exact zznlt t1 (zznlt (by show s₁.toks≤s₁.toks+1+1;exact Nat.le_add_right_of_le (zznar _ _)) h1)
noncomputable def mapO (f:List Nat→Option (List Nat)):List (List Nat)→Option (List (List Nat))
 | []=>some []
 | l::r=>(f l).bind fun x=>(mapO f r).map (x::·)
theorem zHK {f:List Nat→Option (List Nat)}:∀ {ls rs:List (List Nat)},mapO f ls=some rs→rs.length=ls.length∧∀ (i:Nat) l,ls[i]? = some l→∃ r,f l=some r∧rs[i]? = some r
 | [],rs,h=>by cases h;exact⟨rfl,fun i l h=>by simp at h⟩
 | x::xs,rs,h=>by
  refine zbd h fun y hy h=>?_;refine ze12 (Option.map_eq_some_iff.mp h) fun ys hys z6=>?_;subst z6;refine ze02 (zHK hys) fun h1 h2=>?_;refine⟨by simp[h1],fun i l hi=>?_⟩;cases i with
  | zero=>cases hi;exact⟨y,hy,rfl⟩
  | succ i=>exact h2 i l hi
noncomputable def joinG (sep:List Nat)(f:List Nat→Option (List Nat))(v:V):Option V:=match v with
 | .lst ps=>(strsOf ps).bind fun ls=>(mapO f ls).bind fun rs=>if (rs.map fun l=>l.length+sep.length).sum≤1000000 then some (.str (joinL sep rs)) else none
 | _=>none
theorem zEI:∀ {ps:List V} {ls:List (List Nat)},strsOf ps=some ls→ls.length=ps.length
 | [],ls,h=>by cases h;rfl
 | .str l::r,ls,h=>by
  refine ze12 (Option.map_eq_some_iff.mp h) fun y hy z0=>?_;subst z0;simp[zEI hy]
 | .none::_,_,h=>by exact noneE h
 | .bool _::_,_,h=>by exact noneE h
 | .int _::_,_,h=>by exact noneE h
 | .obj _::_,_,h=>by exact noneE h
 | .tup _::_,_,h=>by exact noneE h
 | .lst _::_,_,h=>by exact noneE h
set_option tactic.hygienic true in
theorem SimE.joinGen {sep:Str}{sepL:List Nat}{k p ap pos}{elt iter:Expr}{x:Str}{px sc gp f fi c q}(hG:GOk g)(hg:GenOk g c)(hc:fs.code=some (c,q))(hkn:(gp,q++"<genexpr>")∈g.known)(hs:sep=ms sepL)(hsl:∀ d∈sepL,d<1114112)
  (hi:SimC g j fs iter fi) (he:QStr g sc x elt f) (hco:sc.isCoroutine=false) (hclos:∀ env,closureFor sc env=pure []) (hcell:∀ y∈sc.names,y.2≠.cell) (h0:sc.names.lookup (".0":Str)=some NameKind.local)
  (hx:sc.names.lookup x=some .local) (hkind:sc.kind=.function) (hfold:∀ env x,genFold iter env x=pure x)
  (hb:∀ env,attributeBase (.Constant (.str sep) k p) "join" env (eval (.Constant (.str sep) k p) env)=eval (.Constant (.str sep) k p) env) (hline:(ap.endLine==pos.line)=true):
  SimE g j fs (.Call (.Attribute (.Constant (.str sep) k p) "join" ap) [.GeneratorExp elt [⟨.Name x px,iter,[],0⟩] sc gp] [] pos) (fun η=>(fi η).bind (joinG sepL f)):=by
 intro A ids Wo env gh η kp s v hA hE hR hx';obtain⟨v',hf,hx'⟩:=Option.bind_eq_some_iff.mp hx';unfold joinG at hx';split at hx'
 case h_2=>exact noneE hx'
 rename_i ps;obtain⟨ls,hls,hx'⟩:=Option.bind_eq_some_iff.mp hx';obtain⟨rs,hrs,hx'⟩:=Option.bind_eq_some_iff.mp hx';split at hx'
 case isFalse=>exact noneE hx'
 rename_i hsum;cases hx';obtain⟨hcode,hq⟩:=hE.code c q hc;obtain⟨hrl,hrg⟩:=zHK hrs;obtain⟨bm,ob,hB⟩:=hg.mod;refine zAg (zznlr _) (zznlr _) ?_;have htr:backTo pos (starEach [.GeneratorExp elt [⟨.Name x px,iter,[],0⟩] sc gp] env)=[(false,eval (.GeneratorExp elt [⟨.Name x px,iter,[],0⟩] sc gp) env)]:=by rw[zAa rfl];rfl
 refine wpAny_Call_method_late (hb env) (by rw[htr];rfl) hline rfl ?_;refine wpAny_Constant_str (k:=k) (pos:=p) ?_;have e0:Ext g s {s with toks:=s.toks+1}:=Ext.toks s _;have hR0:=hR.ext e0;refine⟨"str","str.join",PySem.F.plainAttrs_str,PySem.F.slot_str_join,PySem.F.type_str_join,typeIs_str _ _ _,fun a q=>(by cases q),?_⟩;refine zAn rfl zAD ?_;rw[zAa rfl];refine Calls.spliced_cons ?_;refine zGm hA.1 hco (hclos env) hcell h0 hx hkind hA.depth (zzwqm (hi A ids Wo env gh η kp _ _ hA hE hR0 hf) (fun lv s₁ q=>?_) fun _x _x h=>h.elim) (hfold env);obtain⟨e1,r1⟩:=q;obtain⟨a,vs,rfl,hl,hne,rl,hz⟩:=r1.lst Wt_P;obtain⟨qs,rfl,hqs,hch⟩:=zF4 rl hls;have hR1:=hR0.ext e1;obtain⟨s2,hs2⟩:∃ s2:Shared,s2={s₁ with heap:=s₁.heap.push {cls:=.type "list_iterator",data:=.fields #[.ref a,.int 0 0]}}:=⟨_,rfl⟩
 have e2:Ext g s₁ s2:=hs2▸Ext.push _;have hR2:=hR1.ext e2;have hlim2:s2.heap.NoLimit:=hG.lim.keeps hR2.keep0;have hk12:∀ b o,s₁.heap.get? b=some o→s2.heap.get? b=some o:=fun b o e=>by rw[hs2];exact Heap.get?_push_of_some _ e
 have hI2:s2.heap.get? s₁.heap.objs.size=some {cls:=.type "list_iterator",data:=.fields #[.ref a,.int 0 0]}:=by rw[hs2];exact Heap.get?_push_size _ rfl
 have hsz2:s2.heap.objs.size=s₁.heap.objs.size+1:=by rw[hs2];exact Heap.size_push ..
 refine wpAny_pyIter_list hl ?_;rw[←hs2];refine⟨hlim2,?_⟩;rw[hq];refine zK9 hg hcode hR2.keep0 hR2.tab hkn fun cv h' tk hxb hsz hT'=>?_;have hP0:∀ b o,g.h0.get? b=some o→b≠g.P:=fun b o e h=>by have:=hR.offP.2;rw[←h,e] at this;cases this
 have hk0':∀ b o,g.h0.get? b=some o→h'.get? b=some o:=fun b o e=>hxb b o (hP0 b o e) (hR2.keep0 b o e);have hB':=hB.keeps hk0';rw[hE.globals];refine wpAny_builtinsFor hB'.ns hB'.name hB'.ne hB'.obj hB'.cls hB'.dict hB'.data ?_;have hlt:a<s₁.heap.objs.size:=by obtain⟨_,e,_⟩:=hl;exact Heap.lt_size e
 have hPlt:g.P<s₁.heap.objs.size:=by obtain⟨_,e,_⟩:=hR1.tab;exact Heap.lt_size e
 have hcs:cStatics<s₁.heap.objs.size:=by
  have h1:s₁.heap.NoLimit:=hG.lim.keeps hR1.keep0;obtain⟨_,hn,_⟩:=h1;exact hn.lt
 have hIC:s₁.heap.objs.size<h'.objs.size:=zznlv (by rw[hsz2];exact Nat.lt_succ_self _) hsz
 refine⟨s₁.heap.objs.size,[s₁.heap.objs.size,a],[s₁.heap.objs.size],(strValues qs).toArray.size,fun i v=>(strValues qs).toArray[i]? = some v,_,fun i y=>∃ r u,rs[i]? = some r∧y=.str (ms r) u∧∀ d∈r,d<1114112,rfl,(fun A' hA'=>Walks.list hA' _ _ (Nat.ne_of_lt hlt) _),
  ⟨⟨_,hxb _ _ (Nat.ne_of_gt hPlt) hI2,rfl,rfl⟩,hl.at fun o e=>hxb _ _ hne (hk12 _ _ e)⟩,?_,hG.lim.keeps hk0',?_,?_,?_⟩
 ·intro b hb;rcases List.mem_cons.mp hb with rfl | hb
  ·exact hIC
  ·rcases List.mem_cons.mp hb with rfl | hb
   ·exact Nat.lt_trans hlt hIC
   ·cases hb
 ·intro hb;rcases List.mem_cons.mp hb with e | hb
  ·exact absurd (e▸hcs) (Nat.lt_irrefl _)
  ·cases hb
 ·intro href _ A' E' i v s₂ m₂ hA' hP ht hn hm _;have hv:(strValues qs)[i]? = some v:=by simpa using hP
  obtain⟨qi,hqi,rfl⟩:∃ qi,qs[i]? = some qi∧v=.str qi.1 qi.2:=by
   unfold strValues at hv;rw[List.getElem?_map] at hv;obtain⟨qi,h1,h2⟩:=Option.map_eq_some_iff.mp hv;exact⟨qi,h1,h2.symm⟩
  obtain⟨l,hli,hq1⟩:∃ l,ls[i]? = some l∧qi.1=ms l:=by
   have:=congrArg (fun z=>z[i]?) hqs;simp only[List.getElem?_map,hqi] at this;cases h:ls[i]? with
   | none=>rw[h] at this;cases this
   | some l=>rw[h] at this;exact⟨l,rfl,by simpa using this⟩
  obtain⟨r,hr,hri⟩:=hrg i l hli;rw[hq1] at hm;refine zzwqm (he A' E' _ s₂ m₂ l r qi.2 hA' rfl hn hm (hch l (List.mem_of_getElem? hli)) ht hr) (fun y s₃ q=>?_) fun _x _x h=>h;obtain⟨⟨u,hu⟩,h1,h2,_⟩:=q;exact⟨⟨r,u,hri,hu,h1⟩,h2⟩
 ·intro ga h₅ tk₅ gs hgb hag hsz₅ htk₅ hk₅ W hat;refine Calls.spliced_nil ?_;have hn:(strValues qs).toArray.size=rs.length:=by
   rw[hrl];have:=congrArg List.length hqs;simpa [strValues] using this
  have hagI:s₁.heap.objs.size<ga:=Nat.lt_trans hIC hag;rw[hs];refine SC.joinGen W.in4_2 (fun i s' st=>st.1.typeIs) hat (fun b hb=>?_) (zzlms ..) (fun i v ⟨r,u,_,e,_⟩=>⟨_,u,e⟩) (fun s' l hm hacc=>?_) ?_
  ·show b<h₅.objs.size;rw[hsz₅];rcases List.mem_cons.mp hb with rfl | hb
   ·exact Nat.lt_succ_self _
   ·rcases List.mem_cons.mp hb with rfl | hb
    ·exact Nat.lt_succ_of_lt hag
    ·exact Nat.lt_succ_of_lt (Nat.lt_trans (List.mem_range.mp hb) hag)
  ·have hll:l.map (·.1)=rs.map ms:=by
    apply List.ext_getElem?;intro i;have hsz:l.length=rs.length:=by rw[←hn];simpa [strValues] using hacc.1
    by_cases hj:i<rs.length
    ·have hj':i<l.length:=hsz▸hj;obtain⟨r,u,h1,h2,_⟩:=hacc.2 i (.str l[i].1 l[i].2) (by simp[strValues,List.getElem?_eq_getElem hj']);injection h2 with h3 _
     rw[List.getElem?_map,List.getElem?_map,h1,List.getElem?_eq_getElem hj'];simp[h3]
    ·rw[List.getElem?_eq_none (by simpa [hsz] using Nat.le_of_not_lt hj),List.getElem?_eq_none (by simpa using Nat.le_of_not_lt hj)]
   have hrch:∀ r∈rs,∀ d∈r,d<1114112:=fun r hr=>by
    obtain⟨i,hi⟩:=List.mem_iff_getElem?.mp hr;have hj:i<rs.length:=(List.getElem?_eq_some_iff.mp hi).1;have hsz:l.length=rs.length:=by rw[←hn];simpa [strValues] using hacc.1
    have hj':i<l.length:=hsz▸hj;obtain⟨r',u,h1,_,h2⟩:=hacc.2 i (.str l[i].1 l[i].2) (by simp[strValues,List.getElem?_eq_getElem hj']);rw[hi] at h1;cases h1;exact h2
   rw[hll];refine⟨zGY hsum,fun t' k' hz3 hk3=>⟨⟨fun b o hb e=>?_,fun _x=>?_,hz3,fun G=>?_,?_,hk3⟩,?_⟩⟩
   ·have h1:=e1.heap b o hb (e0.heap b o hb e);have hb1:=Heap.lt_size h1;refine hm.heap b o (fun hmem=>?_) (hk₅ b o (hxb b o hb (hk12 b o h1)));rcases List.mem_cons.mp hmem with rfl | hmem
    ·exact absurd (Nat.lt_trans hIC hb1) (Nat.lt_irrefl _)
    ·rcases List.mem_cons.mp hmem with rfl | hmem
     ·exact Nat.lt_irrefl _ hb1
     ·cases hmem
   ·obtain⟨ps',hp1,hp2,hp3⟩:=hT';have stay:∀ b o,b≠s₁.heap.objs.size→h'.get? b=some o→s'.heap.get? b=some o:=fun b o hbI e=>hm.heap b o (fun hmem=>by
     rcases List.mem_cons.mp hmem with rfl | hmem
     ·exact Nat.lt_irrefl _ (Heap.lt_size e)
     ·rcases List.mem_cons.mp hmem with rfl | hmem
      ·exact hbI rfl
      ·cases hmem) (hk₅ b o e)
    refine⟨ps',stay _ _ (Nat.ne_of_lt hPlt) hp1,hp2,fun pos' cv' e=>?_⟩;obtain⟨c',q',rfl,h1,h2,h3⟩:=hp3 pos' cv' e;refine⟨c',q',rfl,h1,h2,?_⟩;have hcI:c'≠s₁.heap.objs.size:=fun e=>by
     subst e;exact(ItOk.code ⟨_,_,_,hxb _ _ (Nat.ne_of_gt hPlt) hI2,rfl,.inl rfl,rfl,fun q t h=>by simp at h⟩) h3
    obtain⟨c2,o2,vs2,t2,e2',ho2,r2⟩:=h3;cases e2';exact⟨_,o2,vs2,t2,rfl,stay _ _ hcI ho2,r2⟩
   ·refine AllBare.moved (AllBare.push ?_ hgb) hm.gens;exact e2.gens (e1.gens (e0.gens G))
   ·exact hm.os.trans (e2.os.trans (e1.os.trans e0.os))
   ·have e:Txt.join (ms sepL) (rs.map ms)=ms (joinL sepL rs):=by unfold Txt.join;rw[StrLaws.glued_eq_join,join_eq]
    rw[e];refine .str _ _ (fun d hd=>?_) (zznlt zCF (zznlt hsum (by rw[sizeLine_eq];decide)));rcases zEg hd with ⟨l',hl',hd⟩ | hd
    ·exact hrch l' hl' d hd
    ·exact hsl d hd
  ·rw[hn,hrl,zEI hls];exact hz
end
end Mine.Internal
end
noncomputable section
open PySem PySem.W PySem.Calls PyProof.Rows
open PySem.Builtin PySem.Builtin.Str
namespace Mine.Internal
section
variable {prog:Program} {w:World} {A:Around} {E:Value→Shared→Prop} {s:Shared} {d:Addr} {f:Int→Option Value}
theorem zFt:isSubtype (.type "KeyError") (.type "LookupError")=pure true:=by rw[isSubtype_type];kernel_rfl
theorem zCg {c:Nat}{x:Str}{t:Tok}{Q:Mapped→Shared→Prop}(hm:s.heap.MapOf (intKind prog w) d f)(hv:f c=some (.str x t))(h:∀ tk,Q (.text x) {s with toks:=tk}):wpAny (model prog w) A (tableLookup (.ref d) c) Q E s:=by
 unfold tableLookup;refine zzwqb (wpAny_attempt ?_);refine zzwqb (wpAny_mkInt ?_);refine wpAny_getItem_intMap (s:={s with toks:=s.toks+1}) hm.intMap hv ?_;dsimp only
 repeat (first | exact h _ | wp_step)
theorem zEc {c:Nat}{Q:Mapped→Shared→Prop}(hh:A.handled=none)(hd:(d==sysModules)=false)(hm:s.heap.MapOf (intKind prog w) d f)(hv:f c=none)
  (h:∀ h' tk,(∀ b o,s.heap.get? b=some o→h'.get? b=some o)→Q .keep {s with heap:=h',toks:=tk}):wpAny (model prog w) A (tableLookup (.ref d) c) Q E s:=by
 unfold tableLookup;refine zzwqb (wpAny_attempt ?_);refine zzwqb (wpAny_mkInt ?_);refine wpAny_getItem_missing_of (s:={s with toks:=s.toks+1}) (knd:=intKind prog w) (k:=(c:Int)) (by simp[intKind,Value.isInt]) hd hh hm hv fun h' e hx=>?_;refine ze23 hx.there fun ob t0 h1 h2 _=>?_;dsimp only;refine zzwqb (wpAny_isInstance (T:="KeyError") (b:=true) (s:={s with heap:=h',toks:=s.toks+1+1}) ⟨ob,h1,h2⟩ zFt ?_);rw[if_pos rfl];exact zzwqb (wpAny_rule (zzwqp (h h' _ hx.keeps)))
theorem zA9 {α:Type}{M:Model}{A:Around}{c:Prop}[Decidable c]{x y:Sem α}{Q:α→Shared→Prop}{E:Value→Shared→Prop}{s:Shared}(hc:¬c)(h:wpAny M A y Q E s):wpAny M A (if c then x else y) Q E s:=by
 rw[if_neg hc];exact h
theorem zIM {α:Type}{M:Model}{A:Around}{c:Prop}[Decidable c]{x y:Sem α}{Q:α→Shared→Prop}{E:Value→Shared→Prop}{s:Shared}(hc:c)(h:wpAny M A x Q E s):wpAny M A (if c then x else y) Q E s:=by
 rw[if_pos hc];exact h
theorem zFZ {α β:Type}{M:Model}{A:Around}{c:Nat}{b b':β}{f:Nat→β→Sem (ForInStep β)}{k:β→Sem α}{Q:α→Shared→Prop}{E:Value→Shared→Prop}{s:Shared}(hb:b=b')
  (h:wpAny M A (f c b') (fun r s'=>wpAny M A (match r with | .done b=>pure b | .yield b=>forIn [] b f) (fun b s2=>wpAny M A (k b) Q E s2) E s') E s):wpAny M A (forIn #[c] b f >>= k) Q E s:=by
 subst hb;rw[←Array.forIn_toList];show wpAny _ _ (forIn [c] _ _ >>= _) _ _ _;rw[List.forIn_cons];exact zzwqb (zzwqb h)
theorem zE6 {c:Nat}{r:List Nat}{t:Tok}{Q:Value→Shared→Prop}(hh:A.handled=none)(hd:(d==sysModules)=false)(hm:s.heap.MapOf (intKind prog w) d f)
  (hv:(∃ a b u,f c=some (.str (ms [a,b]) u)∧r=[a,b])∨(f c=none∧r=[c]))
  (h:∀ h' tk u,(∀ b o,s.heap.get? b=some o→h'.get? b=some o)→Q (.str (ms r) u) {s with heap:=h',toks:=tk}):
  wpAny (model prog w) A («str.translate» ⟨[.str (ms [c]) t,.ref d],[]⟩) (fun fin s'=>∃ v,fin=.done (.ret v)∧Q v s') E s:=by
 unfold «str.translate»;refine zzwqb (m:=strOneArg "translate" _) (wpAny_of_eq (a:=(Value.str (ms [c]) t,ms [c],Value.ref d)) rfl ?_);have e0:((ms [c]).length==0)=false:=rfl;have e1:(ms [c]).cps = #[c]:=rfl;have e2:(#[c].all fun x=>decide (x<128))=decide (c<128):=by simp
 have e3:tooLong 0=false:=rfl;dsimp only;refine zA9 (by rw[e0];exact zzbft) ?_;have fin:∀ (q:Str) (n:Nat) (h':Heap) (tk:Tok),q=ms r→tooLong n=false→(∀ b o,s.heap.get? b=some o→h'.get? b=some o)→
   wpAny (model prog w) A (do
    if tooLong n=true then unsupported "str.translate:memory"
    retStr ⟨([q]:List Str).reverse.foldl (fun acc p=>acc++p.cps) #[]⟩) (fun fin s'=>∃ v,fin=.done (.ret v)∧Q v s') E {s with heap:=h',toks:=tk}:=by
  intro q n h' tk hq hn hk;subst hq;rw[hn];simp only[Bool.false_eq_true,if_false];have e5:(⟨([ms r]:List Str).reverse.foldl (fun acc p=>acc++p.cps) #[]⟩:Str)=ms r:=by simp
  rw[e5];unfold retStr;have hrl:r.length≤2:=by rcases hv with ⟨a,b,u,_,rfl⟩ | ⟨_,rfl⟩<;>simp
  refine zzwqb (wpAny_mkStr ?_ (by have:(ms r).length=r.length:=(by simp[Str.length]);rw[this,sizeLine_eq];exact zznlt hrl (zznal _ _)));exact zzwqp ⟨_,rfl,h h' _ _ hk⟩
 have same:∀ b o,s.heap.get? b=some o→s.heap.get? b=some o:=fun _x _x e=>e;have tl:∀ a b,tooLong (0+(ms [a,b]).length)=false:=fun _x _x=>rfl;by_cases hc:c<128
 ·refine zFZ (b':=([],0,true,[],false)) (by rw[e2,decide_eq_true hc]) ?_;dsimp only;refine zA9 (by rw[e3];exact zzbft) ?_;refine zIM rfl ?_;dsimp only[List.lookup_nil];rcases hv with ⟨a,b,u,hf,rfl⟩ | ⟨hf,rfl⟩
  ·have e4:((ms [a,b]).length==1&&(ms [a,b]).cps.all fun x=>decide (x<128))=false:=rfl;refine zzwqb (zCg hm hf fun tk=>?_);simp only[e4,Bool.false_eq_true,if_false];refine zzwqb (zzwqp ?_);dsimp only;refine zzwqb (wpAny_rule ?_);refine zzwqb (zCg (s:={s with toks:=tk}) hm hf fun tk2=>?_);refine zzwqp ?_;dsimp only;rw[List.forIn_nil];refine zzwqp ?_;exact fin _ _ s.heap tk2 rfl (tl a b) same
  ·refine zzwqb (zEc hh hd hm hf fun h' tk hk=>?_);dsimp only;refine zzwqb (zzwqp ?_);refine zzwqp ?_;dsimp only;rw[List.forIn_nil];refine zzwqp ?_;exact fin _ _ h' tk rfl rfl hk
 ·refine zFZ (b':=([],0,false,[],false)) (by rw[e2,decide_eq_false hc]) ?_;dsimp only;refine zA9 (by rw[e3];exact zzbft) ?_;refine zA9 zzbft ?_;rcases hv with ⟨a,b,u,hf,rfl⟩ | ⟨hf,rfl⟩
  ·refine zzwqb (zCg hm hf fun tk=>?_);refine zzwqp ?_;dsimp only;rw[List.forIn_nil];refine zzwqp ?_;exact fin _ _ s.heap tk rfl (tl a b) same
  ·refine zzwqb (zEc hh hd hm hf fun h' tk hk=>?_);refine zzwqp ?_;dsimp only;rw[List.forIn_nil];refine zzwqp ?_;exact fin _ _ h' tk rfl rfl hk
end
end Mine.Internal
end
noncomputable section
open PySem PySem.W PySem.Calls PyProof.Rows
open PySem.Builtin PySem.Builtin.Str
namespace Mine.Internal
section
variable {g:GC} {j:Nat} {fs:FS}
noncomputable def zDm (g:GC)(m:Str)(S:List Nat):Prop:=
 ∃ (d:Addr) (f:Int→Option Value),g.mg m=some (.ref d)∧(d==sysModules)=false∧g.h0.MapOf (intKind g.prog g.w) d f∧(∀ c∈S,c<1114112)∧∀ c:Nat,(c∈S→∃ u,f c=some (.str (ms [92,c]) u))∧(c∉S→f c=none)
noncomputable def zAX (S:List Nat)(c:Nat):List Nat:=if S.contains c then [92,c] else [c]
noncomputable def zED (S:List Nat)(x:V):Option V:=(asStr x).bind fun q=>(one q).map fun (c:Nat)=>V.str (zAX S c)
theorem zEC {S:List Nat}{x v:V}(h:zED S x=some v):∃ c,x=.str [c]∧.str (zAX S c)=v:=by
 refine zbd h fun q h1 h=>?_;refine ze12 (Option.map_eq_some_iff.mp h) fun c h2 h=>?_;exact⟨c,zGT h2▸zAv h1,h⟩
set_option tactic.hygienic true in
theorem SimE.translate {o:Expr}{m:Str}{ap np pos:Pos}{f S}(hG:GOk g)(hT:zDm g m S)(hk:zAj fs.scope m=some .globalImplicit)(ho:SimC g j fs o f)
  (hb:∀ env,attributeBase o "translate" env (eval o env)=eval o env) (hline:(ap.endLine==pos.line)=true) (hd:(m==("__debug__":Str))=false):
  SimE g j fs (.Call (.Attribute o "translate" ap) [.Name m np] [] pos) (fun η=>(f η).bind (zED S)):=by
 intro A ids Wo env gh η kp s v hA hE hR hx;refine zbd hx fun x hf hx=>?_;refine ze25 hT fun d ff hmg hds hmap hS1 hS=>?_;clear hT;refine ze12 (zEC hx) fun c e hv=>?_;subst e;subst hv;have htr:backTo pos (starEach [.Name m np] env)=[(false,eval (.Name m np) env)]:=by rw[zAa rfl];rfl
 refine wpAny_Call_method_late (hb env) (by rw[htr];rfl) hline rfl (zzwqm (ho A ids Wo env gh η kp s _ hA hE hR hf) (fun a s₁ q=>?_) fun _x _x h=>h);refine ze02 q fun e1 r1=>?_;clear q;refine ze13 r1.str fun t z1 c1 hz=>?_;subst z1;have hR1:=hR.ext e1;refine⟨"str","str.translate",PySem.F.plainAttrs_str,PySem.F.slot_str_translate,PySem.F.type_str_translate,typeIs_str _ _ _,fun a q=>(by cases q),?_⟩;refine zAn rfl zAD ?_;rw[zAa rfl];refine Calls.spliced_cons (wpAny_Name (zCh hG hE hR1 hk hmg ?_) hd);refine Calls.spliced_nil ?_;refine ze32 hmap fun od es ep hod hrest=>?_;clear hmap;have hm1:s₁.heap.MapOf (intKind g.prog g.w) d ff:=⟨od,es,ep,hR1.keep0 _ _ hod,hrest⟩
 refine zAg (zznlr _) (zznlr _) ?_;refine wpAny_call_entry PySem.F.slot_str_translate (typeIs_str _ _ _) PySem.F.entry_str_translate (zE6 (r:=zAX S c) hA.1 hds hm1 ?_ fun h' tk u hkeep hz1 hk1=>⟨e1.trans (Ext.of_heap hkeep hz1 hk1),?_⟩) (PySem.F.args_str_translate_2 _ _)
 ·unfold zAX;by_cases hc:c∈S
  ·refine ze11 ((hS c).1 hc) fun u hu=>?_;exact .inl ⟨92,c,u,hu,by simp[hc]⟩
  ·exact .inr ⟨(hS c).2 hc,by simp[hc]⟩
 ·refine .str _ _ (fun e he=>?_) ?_
  ·unfold zAX at he;split at he
   ·rename_i hc;have hc':c∈S:=by simpa using hc
    rcases List.mem_cons.mp he with rfl | he
    ·decide
    ·have:e=c:=by simpa using he
     exact this▸hS1 c hc'
   ·have:e=c:=by simpa using he
    exact this▸c1 c (by simp)
  ·rw[sizeLine_eq];unfold zAX;split<;>simp
end
end Mine.Internal
end
noncomputable section
open PySem PySem.W PySem.Calls PyProof.Rows
namespace Mine.Internal
section
variable {g:GC} {j:Nat} {fs:FS}
end
section
variable {g:GC} {j:Nat} {fs:FS}
end
end Mine.Internal
end
noncomputable section
open PySem PySem.Sre
namespace Mine.Internal
noncomputable def zAC:Array Nat:=#[14,14,4,1,1,9,0,64,0,1342177280,0,0,0,0,0,17,0,13,11,9,0,64,0,1342177280,0,0,0,0,0,17,1,1]
noncomputable def isOp (c:Nat):Bool:=c==38||c==124||c==126
theorem zLt:∀ c,c<256→((zAC.getD (6+c/32) 0).testBit (c%32))=isOp c:=by decide +kernel
theorem zKt:∀ c,c<256→((zAC.getD (20+c/32) 0).testBit (c%32))=isOp c:=by decide +kernel
theorem zIv (c:Nat)(seen:Seen):∃ s',inSet zAC c 32 5 true seen=.ok (isOp c,s'):=by
 have e:inSet zAC c 32 5 true seen=if (decide (c<256)&&(zAC.getD (5+(1+c/32)) 0).testBit (c%32))=true then .ok (true,seen.add 9) else .ok (false,(seen.add 9).add 0):=rfl;rw[e];have e2:5+(1+c/32)=6+c/32:=by exact(Nat.add_assoc _ _ _).symm
 rw[e2];by_cases hc:c<256
 ·rw[zLt c hc];cases isOp c<;>simp[hc]
 ·have:isOp c=false:=by simp[isOp];exact zn47 hc
  rw[this];simp[hc]
theorem zGZ (c:Nat)(seen:Seen):∃ s',inSet zAC c 32 19 true seen=.ok (isOp c,s'):=by
 have e:inSet zAC c 32 19 true seen=if (decide (c<256)&&(zAC.getD (19+(1+c/32)) 0).testBit (c%32))=true then .ok (true,seen.add 9) else .ok (false,(seen.add 9).add 0):=rfl;rw[e];have e2:19+(1+c/32)=20+c/32:=by exact(Nat.add_assoc _ _ _).symm
 rw[e2];by_cases hc:c<256
 ·rw[zKt c hc];cases isOp c<;>simp[hc]
 ·have:isOp c=false:=by simp[isOp];exact zn47 hc
  rw[this];simp[hc]
noncomputable def zBf:List Nat→Nat→Option Nat
 | [],_=>none
 | c::r,k=>if isOp c then some k else zBf r (k+1)
theorem zBI {m:M}{l:List Nat}(hc:m.code=zAC)(ht:m.text=l.toArray)(hl:m.lim=l.length):∀ (fuel s:Nat) (seen:Seen),fuel=l.length+1-s→∃ s',M.admitted m fuel s seen=.ok (zBf (l.drop s) s,s')
 | 0,s,seen,hf=>by
  have:l.drop s=[]:=List.drop_of_length_le (zn133 hf);rw[this];exact⟨seen,rfl⟩
 | fuel+1,s,seen,hf=>by
  unfold M.admitted;rw[hl];by_cases hs:s≥l.length
  ·rw[if_pos hs,List.drop_of_length_le hs];exact⟨seen,rfl⟩
  ·rw[if_neg hs];have hlt:s<l.length:=by exact Nat.lt_of_not_le hs
   have e1:m.text.getD s 0=l[s]:=by rw[ht];simp[hlt]
   rw[hc,e1];refine ze11 (zIv l[s] seen) fun s' e2=>?_;have e3:zAC.size=32:=rfl;rw[e3,e2,List.drop_eq_getElem_cons hlt];unfold zBf;cases isOp l[s] with
   | true=>exact⟨s',rfl⟩
   | false=>
    obtain⟨s2,e4⟩:=zBI hc ht hl fuel (s+1) s' (zn135 hf);exact⟨s2,e4⟩
theorem zBY:∀ {l:List Nat} {k i:Nat},zBf l k=some i→k≤i∧∃ c,l[i-k]? = some c∧isOp c=true∧∀ m,m<i-k→∀ d,l[m]? = some d→isOp d=false
 | [],_,_,h=>by cases h
 | c::r,k,i,h=>by
  unfold zBf at h;by_cases hc:isOp c=true
  ·rw[if_pos hc] at h;cases h;exact⟨zznlr _,c,by simp,hc,fun m hm=>by lia⟩
  ·rw[if_neg hc] at h;refine ze02 (zBY h) fun h1 z2=>?_;refine ze13 z2 fun d h2 h3 h4=>?_;clear z2;have e:i-k=(i-(k+1))+1:=by exact zn136 h1
   refine⟨by exact zn137 e,d,by rw[e];simpa using h2,h3,fun m hm e' he=>?_⟩;cases m with
   | zero=>
    have:c=e':=by simpa using he
    rw[←this];simpa using hc
   | succ m=>exact h4 m (zn138 hm) e' (by simpa using he)
theorem zEa:∀ {l:List Nat} {k:Nat},zBf l k=none→∀ c∈l,isOp c=false
 | [],_,_=>by simp
 | c::r,k,h=>by
  unfold zBf at h;by_cases hc:isOp c=true
  ·rw[if_pos hc] at h;cases h
  ·rw[if_neg hc] at h;intro d hd;rcases List.mem_cons.mp hd with rfl | hd
   ·simpa using hc
   ·exact zEa h d hd
end Mine.Internal
end
noncomputable section
open PySem
namespace Mine.Internal
noncomputable def fr0 (i:Nat):Sre.Frame:={wait:=.nextStart,pc:=15,pos:=i,outermost:=true}
noncomputable def mAt (l:List Nat)(i pc pos handed:Nat)(marks:Array (Option Nat))(lm li:Int)(fs:List Sre.Frame)(wt:Nat)(ans:Option Bool)(seen:Sre.Seen)(out:Option Sre.Outcome):Sre.M:=
 {code:=zAC,text:=l.toArray,lim:=l.length,start:=i,lastStart:=l.length,pc:=pc,pos:=pos,handed:=handed,marks:=marks,lastmark:=lm,lastindex:=li,frames:=fs,weight:=wt,answer:=ans,seen:=seen,outcome:=out}
noncomputable def m00 (l:List Nat)(s:Nat):Sre.M:=mAt l s 15 s s #[none,none] (-1) (-1) [] 0 none (({}:Sre.Seen).add 14) none
theorem zF9 (l:List Nat)(s:Nat):Sre.forSearch zAC l.toArray 1 s l.length false=if (decide (s>l.length)||decide (l.length-s<1))=true then Sre.M.say {m00 l s with lastStart:=0} false else Sre.M.attemptFrom (m00 l s) s true:=by
 rfl
theorem zJT (l:List Nat)(s:Nat):Sre.M.attemptFrom (m00 l s) s true=match Sre.M.admitted (m00 l s) (l.length+1-s) s (({}:Sre.Seen).add 14) with
  | .ok (some s',seen)=>Sre.M.attemptAt {m00 l s with mustAdvance:=false,seen} s' true
  | .ok (none,seen)=>Sre.M.say {m00 l s with seen} false
  | .error why=>Sre.M.stick (m00 l s) why:=by
 rfl
theorem zGO {l:List Nat}{s:Nat}(h:zBf (l.drop s) s=none):∃ m,Sre.forSearch zAC l.toArray 1 s l.length false=m∧m.answer=some false∧m.frames=[]∧m.outcome=none:=by
 rw[zF9];by_cases hs:(decide (s>l.length)||decide (l.length-s<1))=true
 ·rw[if_pos hs];exact⟨_,rfl,rfl,rfl,rfl⟩
 ·rw[if_neg hs,zJT];refine ze11 (zBI (m:=m00 l s) (l:=l) rfl rfl rfl (l.length+1-s) s (({}:Sre.Seen).add 14) rfl) fun s' e=>?_;rw[e,h];exact⟨_,rfl,rfl,rfl,rfl⟩
theorem zGN {l:List Nat}{s i:Nat}(h:zBf (l.drop s) s=some i):∃ seen,Sre.forSearch zAC l.toArray 1 s l.length false=mAt l i 15 i i #[none,none] (-1) (-1) [fr0 i] 1 none seen none:=by
 have hs:s<l.length:=by
  rcases Nat.lt_or_ge s l.length with h' | h'
  ·exact h'
  ·rw[List.drop_of_length_le h'] at h;cases h
 rw[zF9,if_neg (by simp;exact zn139 hs),zJT];refine ze11 (zBI (m:=m00 l s) (l:=l) rfl rfl rfl (l.length+1-s) s (({}:Sre.Seen).add 14) rfl) fun s' e=>?_;rw[e,h];exact⟨s',rfl⟩
theorem zIq (l:List Nat)(i:Nat)(seen:Sre.Seen):(mAt l i 15 i i #[none,none] (-1) (-1) [fr0 i] 1 none seen none).step=mAt l i 17 i i #[some i,none] 0 (-1) [fr0 i] 1 none (seen.add 17) none:=by
 rfl
theorem zIr (l:List Nat)(i:Nat)(seen:Sre.Seen):(mAt l i 17 i i #[some i,none] 0 (-1) [fr0 i] 1 none seen none).step =
  if i≥l.length then Sre.M.say (mAt l i 17 i i #[some i,none] 0 (-1) [fr0 i] 1 none (seen.add 13) none) false else
  match Sre.inSet zAC (l.toArray.getD i 0) 32 19 true (seen.add 13) with
  | .error why=>Sre.M.stick (mAt l i 17 i i #[some i,none] 0 (-1) [fr0 i] 1 none (seen.add 13) none) why
  | .ok (false,seen')=>Sre.M.say (mAt l i 17 i i #[some i,none] 0 (-1) [fr0 i] 1 none seen' none) false
  | .ok (true,seen')=>mAt l i 29 (i+1) i #[some i,none] 0 (-1) [fr0 i] 1 none seen' none:=by
 rfl
theorem zMv {l:List Nat}{i:Nat}{c:Nat}(seen:Sre.Seen)(hc:l[i]? = some c)(ho:isOp c=true):∃ seen',(mAt l i 17 i i #[some i,none] 0 (-1) [fr0 i] 1 none seen none).step=mAt l i 29 (i+1) i #[some i,none] 0 (-1) [fr0 i] 1 none seen' none:=by
 have hi:i<l.length:=(List.getElem?_eq_some_iff.mp hc).1;rw[zIr,if_neg (zn140 hi)];have e1:l.toArray.getD i 0=c:=by
  have:=(List.getElem?_eq_some_iff.mp hc).2;simp[hi,this]
 rw[e1];refine ze11 (zGZ c (seen.add 13)) fun s' e=>?_;rw[e,ho];exact⟨s',rfl⟩
theorem zMW (l:List Nat)(i:Nat)(seen:Sre.Seen):(mAt l i 29 (i+1) i #[some i,none] 0 (-1) [fr0 i] 1 none seen none).step=Sre.M.mark (mAt l i 29 (i+1) i #[some i,none] 0 (-1) [fr0 i] 1 none (seen.add 17) none) 1:=by
 rfl
theorem zMV (l:List Nat)(i:Nat)(seen:Sre.Seen):Sre.M.mark (mAt l i 29 (i+1) i #[some i,none] 0 (-1) [fr0 i] 1 none seen none) 1=mAt l i 31 (i+1) i #[some i,some (i+1)] 1 1 [fr0 i] 1 none seen none:=by
 rfl
theorem zIp (l:List Nat)(i:Nat)(seen:Sre.Seen):(mAt l i 29 (i+1) i #[some i,none] 0 (-1) [fr0 i] 1 none seen none).step=mAt l i 31 (i+1) i #[some i,some (i+1)] 1 1 [fr0 i] 1 none (seen.add 17) none:=
 (zMW ..).trans (zMV ..)
theorem zF7 (l:List Nat)(i:Nat)(seen:Sre.Seen):(mAt l i 31 (i+1) i #[some i,some (i+1)] 1 1 [fr0 i] 1 none seen none).step=mAt l i 31 (i+1) (i+1) #[some i,some (i+1)] 1 1 [fr0 i] 1 (some true) (seen.add 1) none:=by
 rfl
theorem zI8 (l:List Nat)(i:Nat)(seen:Sre.Seen):(mAt l i 31 (i+1) (i+1) #[some i,some (i+1)] 1 1 [fr0 i] 1 (some true) seen none).step=mAt l i 15 i (i+1) #[some i,some (i+1)] 1 1 [] 0 (some true) seen none:=by
 rfl
theorem zKJ (l:List Nat)(i:Nat)(seen:Sre.Seen):(mAt l i 15 i (i+1) #[some i,some (i+1)] 1 1 [] 0 (some true) seen none).step=mAt l i 15 i (i+1) #[some i,some (i+1)] 1 1 [] 0 (some true) seen (some .matched):=by
 rfl
noncomputable def mEnd (l:List Nat)(i:Nat)(seen:Sre.Seen):Sre.M:=mAt l i 15 i (i+1) #[some i,some (i+1)] 1 1 [] 0 (some true) seen (some .matched)
theorem zAP {m:Sre.M}{n:Nat}(h:m.outcome=none):m.runFor (n+1)=m.step.runFor n:=by
 show (if m.outcome.isSome=true then m else _)=_;rw[h];rfl
theorem zD4 {m:Sre.M}{n:Nat}{o:Sre.Outcome}(h:m.outcome=some o):m.runFor n=m:=by
 cases n with
 | zero=>rfl
 | succ n=>
  show (if m.outcome.isSome=true then m else _)=_;rw[h];rfl
theorem zIA {l:List Nat}{s i:Nat}(h:zBf (l.drop s) s=some i):∃ m1 seen,(Sre.forSearch zAC l.toArray 1 s l.length false).runFor 4=m1∧m1.outcome=none∧m1.runFor 4=mEnd l i seen:=by
 refine ze11 (zGN h) fun s0 e0=>?_;refine ze02 (zBY h) fun h1 z3=>?_;refine ze13 z3 fun c h2 h3 _=>?_;clear z3;have hc:l[i]? = some c:=by
  rw[List.getElem?_drop] at h2;have:s+(i-s)=i:=by exact Nat.add_sub_cancel' h1
  rwa [this] at h2
 refine ze11 (zMv (s0.add 17) hc h3) fun s1 e1=>?_;refine⟨mAt l i 31 (i+1) (i+1) #[some i,some (i+1)] 1 1 [fr0 i] 1 (some true) ((s1.add 17).add 1) none,(s1.add 17).add 1,?_,rfl,?_⟩
 ·rw[e0,zAP rfl,zIq,zAP rfl,e1,zAP rfl,zIp,zAP rfl,zF7];rfl
 ·rw[zAP rfl,zI8,zAP rfl,zKJ];exact zD4 (o:=.matched) rfl
theorem zIB {l:List Nat}{s:Nat}(h:zBf (l.drop s) s=none):∃ m,(Sre.forSearch zAC l.toArray 1 s l.length false).runFor 4=m∧m.outcome=some .failed:=by
 refine ze14 (zGO h) fun m e h1 h2 h3=>?_;rw[e];refine⟨_,rfl,?_⟩;rw[zAP h3];have e2:m.step={m with outcome:=some .failed}:=by
  unfold Sre.M.step;rw[h3,h1,h2];rfl
 rw[e2,zD4 (o:=.failed) rfl]
end Mine.Internal
end
noncomputable section
open PySem PySem.Builtin.Re
namespace Mine.Internal
section
variable {M:Model} {A:Around} {E:Value→Shared→Prop} {s₀:Shared}
theorem zC1 {α:Type}{f:α→PUnit→Sem (ForInStep PUnit)}{Q:PUnit→Shared→Prop}(hf:∀ a,∀ (Q':ForInStep PUnit→Shared→Prop),Q' (.yield ⟨⟩) s₀→wpAny M A (f a ⟨⟩) Q' E s₀)(hQ:Q ⟨⟩ s₀):∀ L:List α,wpAny M A (forIn L ⟨⟩ f) Q E s₀
 | []=>by rw[List.forIn_nil];exact zzwqp hQ
 | a::L=>by
  rw[List.forIn_cons];exact zzwqb (hf a _ (zC1 hf hQ L))
theorem zKe {m m1 m2:Sre.M}{o:Sre.Outcome}{Q:Sre.M→Shared→Prop}(h1:m.runFor 4=m1)(h2:m1.outcome=none)(h3:m1.runFor 4=m2)(h4:m2.outcome=some o)(h:Q m2 s₀):wpAny M A (reDrive (2^64) m) Q E s₀:=by
 have e:(2:Nat)^64=(18446744073709551614+1)+1:=by decide
 rw[e];have u:∀ (n:Nat) (m:Sre.M),reDrive (n+1) m=(if (m.runFor 4).outcome.isSome=true then pure (m.runFor 4) else (rule "sre.turn" >>= fun _x=>reDrive n (m.runFor 4))):=fun n m=>rfl;rw[u,h1,h2];refine zzwqb (wpAny_rule ?_);rw[u,h3,h4];exact zzwqp h
theorem zKf {m m1:Sre.M}{o:Sre.Outcome}{Q:Sre.M→Shared→Prop}(h1:m.runFor 4=m1)(h2:m1.outcome=some o)(h:Q m1 s₀):wpAny M A (reDrive (2^64) m) Q E s₀:=by
 have e:(2:Nat)^64=18446744073709551615+1:=by decide
 rw[e];have u:∀ (n:Nat) (m:Sre.M),reDrive (n+1) m=(if (m.runFor 4).outcome.isSome=true then pure (m.runFor 4) else (rule "sre.turn" >>= fun _x=>reDrive n (m.runFor 4))):=fun n m=>rfl;rw[u,h1,h2];exact zzwqp h
theorem zJz {l:List Nat}{s i:Nat}{Q:Option Sre.M→Shared→Prop}(h:zBf (l.drop s) s=some i)(hQ:∀ seen,Q (some (mEnd l i seen)) s₀):wpAny M A (reRunToEnd (Sre.forSearch zAC l.toArray 1 s l.length false)) Q E s₀:=by
 refine ze23 (zIA h) fun m1 seen h1 h2 h3=>?_;unfold reRunToEnd;refine zzwqb (zKe h1 h2 h3 (o:=.matched) rfl ?_);refine zzwqb (zC1 (fun a Q' hq=>?_) ?_ _)
 ·split
  ·exact zzwqb (wpAny_rule (zzwqp hq))
  ·exact zzwqp hq
 ·exact zzwqp (hQ seen)
theorem zJA {l:List Nat}{s:Nat}{Q:Option Sre.M→Shared→Prop}(h:zBf (l.drop s) s=none)(hQ:Q none s₀):wpAny M A (reRunToEnd (Sre.forSearch zAC l.toArray 1 s l.length false)) Q E s₀:=by
 refine ze12 (zIB h) fun m1 h1 h2=>?_;unfold reRunToEnd;refine zzwqb (zKf h1 h2 ?_);refine zzwqb (zC1 (fun a Q' hq=>?_) ?_ _)
 ·split
  ·exact zzwqb (wpAny_rule (zzwqp hq))
  ·exact zzwqp hq
 ·rw[h2];exact zzwqp hQ
end
end Mine.Internal
end
noncomputable section
namespace MineF
open PySem PySem.F
theorem zBN:Slot "re.Pattern" "sub" "re.Pattern.sub":=
 .of (owner:="re.Pattern") (n:="sub") (by rw[typeLookup_type,builtinLookup_eq_fast];kernel_rfl) (by decide +kernel) (by decide +kernel) (by decide +kernel)
  (by first | exact .inl (by decide +kernel) | exact .inr (by decide +kernel)) (by rw[isSubtype_type];kernel_rfl)
theorem zF1:typeOf (.builtin "re.Pattern.sub")=pure (.type "method_descriptor"):=by show builtinType _=_;rw[builtinType_eq_fast];kernel_rfl
theorem zFN:entryFor table "re.Pattern.sub"=some Builtin.«re.Pattern.sub»:=entryFor_of_tree (by kernel_rfl)
theorem zEA:entryFor table "re.Pattern.sub.loop"=some Builtin.«re.Pattern.sub.loop»:=entryFor_of_tree (by kernel_rfl)
theorem zBJ:Slot "re.Match" "group" "re.Match.group":=
 .of (owner:="re.Match") (n:="group") (by rw[typeLookup_type,builtinLookup_eq_fast];kernel_rfl) (by decide +kernel) (by decide +kernel) (by decide +kernel)
  (by first | exact .inl (by decide +kernel) | exact .inr (by decide +kernel)) (by rw[isSubtype_type];kernel_rfl)
theorem zDD:typeOf (.builtin "re.Match.group")=pure (.type "method_descriptor"):=by show builtinType _=_;rw[builtinType_eq_fast];kernel_rfl
theorem zDe:entryFor table "re.Match.group"=some Builtin.«re.Match.group»:=entryFor_of_tree (by kernel_rfl)
theorem zGC (a b c:Value):argsOk "re.Pattern.sub" ⟨[a,b,c],[]⟩:=by
 unfold argsOk;kernel_rfl
theorem zDG (a b:Value):argsOk "re.Match.group" ⟨[a,b],[]⟩:=by
 unfold argsOk;kernel_rfl
end MineF
end
noncomputable section
open PySem PySem.Builtin PySem.Builtin.Re
namespace MineF
open PySem PySem.F
theorem zCA:PlainAttrs "re.Pattern":=
 ⟨⟨"object.__getattribute__",by rw[typeLookup_type,builtinLookup_eq_fast];kernel_rfl,by decide +kernel⟩,by rw[typeLookup_type,builtinLookup_eq_fast];kernel_rfl⟩
theorem zDE:PlainAttrs "re.Match":=
 ⟨⟨"object.__getattribute__",by rw[typeLookup_type,builtinLookup_eq_fast];kernel_rfl,by decide +kernel⟩,by rw[typeLookup_type,builtinLookup_eq_fast];kernel_rfl⟩
theorem zBo:plainId "re.Pattern.sub.loop"=true:=by decide +kernel
end MineF
namespace Mine.Internal
inductive PatAt (h:Heap)(p:Addr):Prop
 | mk (o:Obj) (vs:Array Value) (tu:Addr) (ot:Obj) (xs:Array Value) (n:Nat):h.get? p=some o→o.cls=.type "re.Pattern"→o.dict=none→o.data=.fields vs→reRawNat (vs.getD 2 .none)=1→reRawNat (vs.getD 6 .none)=0→vs.getD 5 .none=.ref tu→
  h.get? tu=some ot→ot.data=.seq xs n→(xs.map reRawOf).map (·.toNat)=zAC→PatAt h p
theorem PatAt.keeps {h h':Heap}{p:Addr}(x:PatAt h p)(hk:∀ b o,h.get? b=some o→h'.get? b=some o):PatAt h' p:=by
 cases x with
 | mk o vs tu ot xs n h1 h2 h3 h4 h5 h6 h7 h8 h9 h10=>exact .mk o vs tu ot xs n (hk _ _ h1) h2 h3 h4 h5 h6 h7 (hk _ _ h8) h9 h10
noncomputable def tgt (p:Addr)(l:List Nat)(t:Tok):ReTarget:={pattern:=.ref p,string:=.str (ms l) t,code:=zAC,text:=l.toArray,kind:=0,groups:=1,pos:=0,lim:=l.length}
section
variable {M:Model} {A:Around} {E:Value→Shared→Prop} {s:Shared}
theorem zDn {p:Addr}{l:List Nat}{t:Tok}{Q:ReTarget→Shared→Prop}(hp:PatAt s.heap p)(h:Q (tgt p l t) s):wpAny M A (reWholeTarget (.ref p) (.str (ms l) t)) Q E s:=by
 obtain⟨o,vs,tu,ot,xs,n,h1,h2,h3,h4,h5,h6,h7,h8,h9,h10⟩:=hp;unfold reWholeTarget;refine zzwqb (wpAny_fieldsOf h1 h4 ?_);refine zzwqb (m:=reTextOf _) (zzwqp ?_);dsimp only;rw[h6];simp only[Nat.reduceBEq,Bool.and_false,Bool.false_eq_true,if_false,Bool.and_true,BEq.rfl,beq_self_eq_true];refine zzwqb (m:=reNoCollectionInside _ _) (wpAny_of_eq (a:=()) rfl ?_);rw[h7];unfold reRawItems seqItems?;refine zzwqb (zzwqb (zzwqb (wpAny_load h8 ?_)));rw[h9];refine zzwqp (zzwqp (zzwqp ?_));rw[h5];have e:Array.map (fun x=>x.toNat) (Array.map reRawOf ((some xs).getD #[]))=zAC:=h10;rw[e];exact h
noncomputable def zBq (h:Heap)(m p:Addr)(l:List Nat)(t:Tok)(i:Nat):Prop:=
 ∃ tu,h.get? m=some {cls:=.type "re.Match",data:=.fields #[.str (ms l) t,.ref p,rawInt 0,rawInt l.length,rawInt 1,.ref tu]}∧h.get? tu=some {cls:=.type "tuple",data:=.seq #[rawInt i,rawInt (i+1:Nat),rawInt i,rawInt (i+1:Nat)]}
theorem zBq.keeps {h h':Heap}{m p:Addr}{l t i}(x:zBq h m p l t i)(hk:∀ b o,h.get? b=some o→h'.get? b=some o):zBq h' m p l t i:=
 let ⟨tu,h1,h2⟩:=x;⟨tu,hk _ _ h1,hk _ _ h2⟩
theorem zJB {p:Addr}{l:List Nat}{t:Tok}{i:Nat}{seen:Sre.Seen}{Q:Value→Shared→Prop}(h:∀ h' m,(∀ b o,s.heap.get? b=some o→h'.get? b=some o)→s.heap.objs.size≤m→zBq h' m p l t i→Q (.ref m) {s with heap:=h'}):
  wpAny M A (reNewMatch (.ref p) (.str (ms l) t) 1 0 l.length (mEnd l i seen)) Q E s:=by
 unfold reNewMatch;have e3:(mEnd l i seen).lastindex=1:=rfl;have e4:(mEnd l i seen).start=i:=rfl;have e5:(mEnd l i seen).handed=i+1:=rfl;simp only[e3,e4,e5];refine zA9 (fun hh=>?_) ?_
 ·have hh':(((decide (((2*0+1:Nat):Int)≤1))&&decide (i+1<i))||false)=true:=hh;simp at hh';exact zn141 hh'
 refine zzwqb (wpAny_newTuple (items:=[rawInt i,rawInt (i+1:Nat),rawInt i,rawInt (i+1:Nat)]) ?_ (by show 4≤sizeLine;decide));refine wpAny_newObj_type (h _ _ (fun b o e=>Heap.get?_push_of_some _ (Heap.get?_push_of_some _ e)) ?_ ⟨s.heap.objs.size,Heap.get?_push_size _ rfl,Heap.get?_push_of_some _ (Heap.get?_push_size _ rfl)⟩) (by size_fits);rw[Heap.size_push];exact Nat.le_succ _
end
end Mine.Internal
end
noncomputable section
open PySem PySem.Builtin PySem.Builtin.Re
namespace Mine.Internal
section
variable {M:Model} {A:Around} {E:Value→Shared→Prop} {s:Shared}
theorem zKN {tu:Addr}{ot:Obj}{xs:Array Value}{n:Nat}{Q:Array Int→Shared→Prop}(h:s.heap.get? tu=some ot)(hd:ot.data=.seq xs n)(hQ:Q (xs.map reRawOf) s):wpAny M A (reRawItems (.ref tu)) Q E s:=by
 unfold reRawItems;refine zzwqb (wpAny_seqItems h hd ?_);exact zzwqp hQ
theorem zGX {m p:Addr}{l:List Nat}{t tk:Tok}{i c:Nat}{Q:Value→Shared→Prop}(hm:zBq s.heap m p l t i)(hc:l[i]? = some c)(h:Q (.str (ms [c]) s.toks) {s with toks:=s.toks+1}):
  wpAny M A («re.Match.group» ⟨[.ref m,.int 1 tk],[]⟩) (fun fin s'=>∃ v,fin=.done (.ret v)∧Q v s') E s:=by
 refine ze12 hm fun tu h1 h2=>?_;clear hm;unfold «re.Match.group»;refine zzwqb (m:=noKeywords _ _) (wpAny_of_eq (a:=()) rfl ?_);dsimp only;refine zzwqb (m:=reFound _) ?_;unfold reFound;refine zzwqb (wpAny_fieldsOf h1 rfl ?_);refine zzwqb (m:=reRawItems (.ref tu)) (zKN h2 rfl (zzwqp ?_));refine zzwqb (m:=reGroupNumber _ _) ?_;unfold reGroupNumber;refine zzwqb (m:=asInt? _) (zzwqp ?_);simp only[Option.isSome_some,if_true];refine zzwqb (m:=asIndex _) (wpAny_of_eq (a:=(1:Int)) rfl ?_);refine zA9 (fun hh=>by simp at hh) ?_
 ·refine zzwqp ?_;refine zzwqb (m:=reGroupText _ _ _) ?_;unfold reGroupText;have e1:(Array.map reRawOf #[rawInt (i:Int),rawInt ((i+1:Nat):Int),rawInt (i:Int),rawInt ((i+1:Nat):Int)]).getD (2*(1:Int).toNat) (-1)=(i:Int):=by simp[reRawOf,rawInt]
  have e2:(Array.map reRawOf #[rawInt (i:Int),rawInt ((i+1:Nat):Int),rawInt (i:Int),rawInt ((i+1:Nat):Int)]).getD (2*(1:Int).toNat+1) (-1)=((i+1:Nat):Int):=by simp[reRawOf,rawInt]
  simp only[e1,e2];refine zA9 (fun hh=>by simp at hh;exact zn142 hh) ?_
  ·refine zzwqb (m:=reTextOf _) (zzwqp ?_);have e3:l.toArray.extract i (i+1) = #[c]:=by
    refine ze11 (List.getElem?_eq_some_iff.mp hc) fun hi hv=>?_;apply Array.ext';simp[List.extract_eq_take_drop];rw[List.drop_eq_getElem_cons hi,hv];rfl
   show wpAny M A (mkStr ⟨l.toArray.extract i (i+1)⟩) _ _ _;rw[e3];exact wpAny_mkStr (zzwqp ⟨_,rfl,h⟩) (by show 1≤sizeLine;decide)
end
end Mine.Internal
end
noncomputable section
open PySem PySem.Builtin PySem.Builtin.Re PySem.Calls PyProof.Rows
namespace Mine.Internal
noncomputable def esc (l:List Nat):List Nat:=l.flatMap fun c=>if isOp c then [92,c] else [c]
theorem zFL:∀ {l:List Nat},(∀ c∈l,isOp c=false)→esc l=l
 | [],_=>rfl
 | c::r,h=>by
  show (if isOp c=true then [92,c] else [c])++esc r=c::r;rw[h c List.mem_cons_self,zFL fun d hd=>h d (List.mem_cons_of_mem _ hd)];rfl
theorem zBz (a b:List Nat):esc (a++b)=esc a++esc b:=by simp[esc]
theorem zLh {l:List Nat}{k i c:Nat}(h:zBf (l.drop k) k=some i)(hc:l[i]? = some c):esc (l.drop k)=(l.drop k).take (i-k)++[92,c]++esc (l.drop (i+1)):=by
 refine ze02 (zBY h) fun h1 z4=>?_;refine ze13 z4 fun d h2 h3 h4=>?_;clear z4;have hd:(l.drop k)[i-k]? = some c:=by
  rw[List.getElem?_drop];have:k+(i-k)=i:=by exact Nat.add_sub_cancel' h1
  rw[this];exact hc
 have e:d=c:=by rw[h2] at hd;exact zzosi hd
 subst e;have hl:i-k<(l.drop k).length:=(List.getElem?_eq_some_iff.mp h2).1;have hv:=(List.getElem?_eq_some_iff.mp h2).2
 have e2:l.drop k=(l.drop k).take (i-k)++d::l.drop (i+1):=by
  have h5:=(List.take_append_drop (i-k) (l.drop k)).symm;rw[List.drop_eq_getElem_cons hl,hv,List.drop_drop] at h5;have:k+(i-k+1)=i+1:=by exact zn143 h1
  rw[this] at h5;exact h5
 have e3:esc ((l.drop k).take (i-k))=(l.drop k).take (i-k):=zFL fun x hx=>by
  refine ze11 (List.mem_iff_getElem?.mp hx) fun m hm=>?_;rw[List.getElem?_take] at hm;split at hm
  ·exact h4 m (by assumption) x hm
  ·cases hm
 refine(congrArg esc e2).trans ?_;rw[zBz,e3];show _++((if isOp d=true then [92,d] else [d])++esc (l.drop (i+1)))=_;rw[h3];simp
theorem zDc (l:List Nat)(b e:Nat):(⟨l.toArray.extract b e⟩:Str)=ms ((l.drop b).take (e-b)):=by
 show (⟨_⟩:Str)=⟨_⟩;congr 1;simp[List.extract_eq_take_drop]
end Mine.Internal
end
noncomputable section
open PySem PySem.Builtin PySem.Builtin.Re PySem.Calls PyProof.Rows
namespace Mine.Internal
section
variable {prog:Program} {w:World} {A:Around} {R:Result→Shared→Prop} {s₀:Shared} {hb:Heap} {p a rf:Addr} {l:List Nat} {t:Tok}
noncomputable def zDL (p rf a:Addr)(l:List Nat)(t:Tok)(k n:Nat):Args:=
 ⟨[.ref p,.str (ms l) t,.ref rf,rawInt 1,rawInt 0,rawInt n,rawInt k,rawInt k,.bool false,.ref a,.bool false],[]⟩
noncomputable abbrev lst (vs:Array Value)(cap:Nat):Obj:={cls:=.type "list",dict:=none,data:=.seq vs cap,slots:=#[]}
noncomputable def zE5 (p rf a:Addr)(l:List Nat)(t:Tok)(n:Nat)(m:Sre.M):Sem PySem.Fin:=do
 let found ←reNewMatch (.ref p) (.str (ms l) t) 1 0 l.length m
 let item ←holding [found] (if (1:Int)==1 then call (.ref rf) [found] else do reExpand (.ref rf) (←reFound found))
 if item != .none then updateSeq a (·.push item)
 again (.builtin "re.Pattern.sub.loop" ⟨[.ref p,.str (ms l) t,.ref rf,rawInt 1,rawInt 0,rawInt ((n:Int)+1),rawInt m.handed,rawInt m.handed,.bool (m.handed==m.start),.ref a,.bool false],[]⟩)
theorem zF5 {qs:List (Str×Tok)}{x:Str}{u:Tok}:(strValues qs).toArray.push (.str x u)=(strValues (qs++[(x,u)])).toArray:=by simp[strValues]
theorem zFm {h:Heap}{a:Addr}{qs:List (Str×Tok)}{cap:Nat}{x:Str}{u:Tok}(ha:h.get? a=some (lst (strValues qs).toArray cap)):∃ cap',(h.update a (Obj.mapSeq (·.push (.str x u)))).get? a=some (lst (strValues (qs++[(x,u)])).toArray cap'):=by
 have e:=Heap.get?_update_self (Obj.mapSeq (·.push (.str x u))) ha rfl;rw[←zF5];exact⟨_,e⟩
theorem zMk {i c n cap tk:Nat}{h:Heap}{qs:List (Str×Tok)}{seen:Sre.Seen}{Q:PySem.Fin→Shared→Prop}{E:Value→Shared→Prop}(hba:hb.get? a=none)(hic:l[i]? = some c)(ho:isOp c=true)(hkeep:∀ b o,hb.get? b=some o→h.get? b=some o)
  (ha:h.get? a=some (lst (strValues qs).toArray cap)) (hsz:qs.length≤1000000)
  (hrepl:∀ (h:Heap) (tk:Nat) (m i c:Nat),(∀ b o,hb.get? b=some o→h.get? b=some o)→zBq h m p l t i→l[i]? = some c→isOp c=true→
   wpAny (model prog w) A (call (.ref rf) [.ref m]) (fun v s'=>∃ h' tk' u,v=.str (ms [92,c]) u∧s'={s₀ with heap:=h',toks:=tk'}∧∀ b o,h.get? b=some o→h'.get? b=some o) (fun _x _x=>False) {s₀ with heap:=h,toks:=tk})
  (hQ:∀ h' tk' cap' u,(∀ b o,hb.get? b=some o→h'.get? b=some o)→h'.get? a=some (lst (strValues (qs++[(ms [92,c],u)])).toArray cap')→
   Q (.again (.builtin "re.Pattern.sub.loop" (zDL p rf a l t (i+1) (n+1)))) {s₀ with heap:=h',toks:=tk'}):
  wpAny (model prog w) A (zE5 p rf a l t n (mEnd l i seen)) Q E {s₀ with heap:=h,toks:=tk}:=by
 unfold zE5;refine zzwqb (zJB fun h1 m hk1 hge hm=>?_);rw[if_pos (by decide)];refine zzwqb (wpAny_holding ?_);refine zzwqm (hrepl h1 tk m i c (fun b o e=>hk1 b o (hkeep b o e)) hm hic ho) (fun v s' q=>?_) fun _x _x h=>h.elim;refine ze33 q fun h2 tk2 u hv hs hk2=>?_;clear q;subst hv hs;have ha2:h2.get? a=some (lst (strValues qs).toArray cap):=hk2 _ _ (hk1 _ _ ha);have e0:((Value.str (ms [92,c]) u != Value.none))=true:=rfl;rw[if_pos e0];have hql:(strValues qs).toArray.size=qs.length:=by simp[strValues]
 refine zzwqb (wpAny_updateSeq (s:={s₀ with heap:=h2,toks:=tk2}) ha2 rfl ?_ (by rw[hql,sizeLine_eq];omega) (by rw[Array.size_push,hql,sizeLine_eq];omega));refine zzwqp ?_;have e1:((mEnd l i seen).handed==(mEnd l i seen).start)=false:=by show (i+1==i)=false;simp
 rw[e1];have hne:∀ b o,hb.get? b=some o→a≠b:=fun b o e hab=>by rw[←hab,hba] at e;cases e
 refine ze11 (zFm (x:=ms [92,c]) (u:=u) ha2) fun cap' hc'=>?_;exact hQ _ tk2 cap' u (fun b o e=>(Heap.get?_update_other _ _ (hne b o e)).trans (hk2 b o (hk1 b o (hkeep b o e)))) hc'
noncomputable def zKc (a:Addr)(l:List Nat)(n:Nat):Sem PySem.Fin:=do
 let joiner ←reSlice l.toArray 0 0 0
 let text ←if ((←seqItems? (.ref a)).getD #[]).isEmpty then pure joiner else call (.builtin (if (0:Nat)==0 then "str.join" else "bytes.join")) [joiner,.ref a]
 if (false:Bool) then ret (←holding [text] do newTuple [text,←mkInt n]) else ret text
theorem zGh:∀ (ps:List (List Nat)),joinL [] ps=ps.flatten
 | []=>rfl
 | [x]=>by simp[joinL]
 | x::y::r=>by
  have:=zGh (y::r);unfold joinL;rw[this];simp
theorem zHd (l:List Nat):(esc l).length≤2*l.length:=by
 induction l with
 | nil=>simp[esc]
 | cons c r ih=>
  have:esc (c::r)=(if isOp c=true then [92,c] else [c])++esc r:=rfl;rw[this,List.length_append,List.length_cons];split<;>simp<;>omega
theorem zLZ {n cap tk:Nat}{h:Heap}{qs:List (Str×Tok)}{ps:List (List Nat)}{E:Value→Shared→Prop}{Q:PySem.Fin→Shared→Prop}(hlen:l.length≤100000)(ha:h.get? a=some (lst (strValues qs).toArray cap))(hqs:qs.map (·.1)=ps.map ms)(hfl:ps.flatten=esc l)
  (hR:∀ tk' u,Q (.done (.ret (.str (ms (esc l)) u))) {s₀ with heap:=h,toks:=tk'}):
  wpAny (model prog w) A (zKc a l n) Q E {s₀ with heap:=h,toks:=tk}:=by
 unfold zKc;refine zzwqb (m:=reSlice _ _ _ _) ?_;show wpAny _ _ (mkStr ⟨l.toArray.extract 0 0⟩) _ _ _;rw[zDc];have e0:(l.drop 0).take (0-0)=[]:=rfl;rw[e0];refine wpAny_mkStr ?_ (by rw[sizeLine_eq];simp[Str.length]);refine zzwqb (wpAny_seqItems (s:={s₀ with heap:=h,toks:=tk+1}) ha rfl ?_);cases qs with
 | nil=>
  rw[if_pos (by simp[strValues])];refine zzwqb (zzwqp ?_);dsimp only;rw[if_neg Bool.false_ne_true];have hp:ps=[]:=by simpa using hqs.symm
  rw[hp] at hfl;have h1:ms []=ms (esc l):=by rw[←hfl];rfl
  rw[h1];exact zzwqp (hR _ _)
 | cons q r=>
  rw[if_neg (by simp[strValues])];have hj:JoinOk (ms []) (ps.map ms)=true:=zGY (by
   have h2:=zHd l;rw[←hfl,List.length_flatten] at h2;have e:(ps.map fun l=>l.length+([]:List Nat).length)=ps.map List.length:=by simp
   rw[e];exact zn145 h2 hlen)
  refine zzwqb (SC.join (s:={s₀ with heap:=h,toks:=tk+1}) ⟨_,ha,rfl,_,rfl⟩ hqs hj fun t' k=>?_);dsimp only;rw[if_neg Bool.false_ne_true];have e:Txt.join (ms []) (ps.map ms)=ms (esc l):=by unfold Txt.join;rw[StrLaws.glued_eq_join,join_eq,zGh,hfl]
  rw[e];exact zzwqp (hR _ _)
set_option tactic.hygienic true in
theorem zKF (hp:PatAt hb p)(hba:hb.get? a=none)(hlen:l.length≤100000)
  (hrepl:∀ (h:Heap) (tk:Nat) (m i c:Nat),(∀ b o,hb.get? b=some o→h.get? b=some o)→zBq h m p l t i→l[i]? = some c→isOp c=true→
   wpAny (model prog w) A.in1 (call (.ref rf) [.ref m]) (fun v s'=>∃ h' tk' u,v=.str (ms [92,c]) u∧s'={s₀ with heap:=h',toks:=tk'}∧∀ b o,h.get? b=some o→h'.get? b=some o) (fun _x _x=>False) {s₀ with heap:=h,toks:=tk})
  (hR:∀ h' tk' u,(∀ b o,hb.get? b=some o→h'.get? b=some o)→R (.ok (.ret (.str (ms (esc l)) u))) {s₀ with heap:=h',toks:=tk'}):
  ∀ (fuel k n:Nat) (h:Heap) (tk cap:Nat) (qs:List (Str×Tok)) (ps:List (List Nat)),fuel=l.length-k→k≤l.length→(∀ b o,hb.get? b=some o→h.get? b=some o)→
   h.get? a=some (lst (strValues qs).toArray cap)→qs.map (·.1)=ps.map ms→ps.flatten++esc (l.drop k)=esc l→ps.length≤2*k→
   codeAny (model prog w) A (.builtin "re.Pattern.sub.loop" (zDL p rf a l t k n)) R {s₀ with heap:=h,toks:=tk}:=by
 intro fuel
 induction fuel using Nat.strongRecOn with
 | ind fuel ih=>
 intro k n h tk cap qs ps hf hk hkeep ha hqs hfl hcnt;refine codeAny_builtin MineF.zEA ?_;rw[Around.under_plainId MineF.zBo _];unfold «re.Pattern.sub.loop» zDL;refine zzwqb (zDn (hp.keeps hkeep) ?_);rw[if_neg (by decide)];dsimp only;rw[if_neg (by simp)];have hqn:qs.length=ps.length:=by have:=congrArg List.length hqs;simpa using this
 have hne:∀ b o,hb.get? b=some o→a≠b:=fun b o e hab=>by rw[←hab,hba] at e;cases e
 refine zzwqb (m:=reNextFound _ _ _) ?_;show wpAny _ _ (reRunToEnd (Sre.forSearch zAC l.toArray 1 k l.length false)) _ _ _;cases hop:zBf (l.drop k) k with
 | some i=>
  refine zJz hop fun seen=>?_;dsimp only;refine ze02 (zBY hop) fun hki z5=>?_;refine ze13 z5 fun c hc1 hc2 _=>?_;clear z5;have hic:l[i]? = some c:=by
   rw[List.getElem?_drop] at hc1;have:k+(i-k)=i:=by exact Nat.add_sub_cancel' hki
   rwa [this] at hc1
  have hil:i<l.length:=(List.getElem?_eq_some_iff.mp hic).1;have ht:=zLh hop hic
  have go:∀ (h2:Heap) (tk2 cap2:Nat) (qs2:List (Str×Tok)) (ps2:List (List Nat)),(∀ b o,hb.get? b=some o→h2.get? b=some o)→h2.get? a=some (lst (strValues qs2).toArray cap2)→qs2.map (·.1)=ps2.map ms→
    ps2.flatten++([92,c]++esc (l.drop (i+1)))=esc l→ps2.length≤2*i+1→
    wpAny (model prog w) A.in1 (zE5 p rf a l t n (mEnd l i seen)) (fun fin s'=>match fin with | .done f=>R (.ok f) s' | .again c'=>c'.quiet=true∧codeAny (model prog w) A c' R s') (fun e s'=>R (.error e) s') {s₀ with heap:=h2,toks:=tk2}:=by
   intro h2 tk2 cap2 qs2 ps2 hk2 ha2 hq2 hf2 hn2;have hqn2:qs2.length=ps2.length:=by have:=congrArg List.length hq2;simpa using this
   refine zMk hba hic hc2 hk2 ha2 (zn146 hil hlen hqn2 hn2) hrepl fun h' tk' cap' u hk' ha'=>⟨plainId_quiet MineF.zBo _,?_⟩
   refine ih (l.length-(i+1)) (zn147 hil hf hki) (i+1) (n+1) h' tk' cap' _ (ps2++[[92,c]]) rfl hil hk' ha' (by simp[hq2]) ?_ (by simp;exact Nat.add_le_add_right hn2 _);rw[List.flatten_append];simpa using hf2
  split
  ·rename_i hlt;have hlt':k<i:=hlt;refine zzwqb (m:=reSlice _ _ _ _) ?_;show wpAny _ _ (mkStr ⟨l.toArray.extract k i⟩) _ _ _;rw[zDc];refine wpAny_mkStr ?_ (by rw[sizeLine_eq];simp[Str.length];(clear hki hil hlt;exact zn149 hlen));refine zzwqb (wpAny_updateSeq (s:={s₀ with heap:=h,toks:=tk+1}) ha rfl ?_ (by have:(strValues qs).toArray.size=qs.length:=(by simp[strValues]);rw[this,sizeLine_eq];omega) (by rw[Array.size_push];have:(strValues qs).toArray.size=qs.length:=(by simp[strValues]);rw[this,sizeLine_eq];omega));rw[if_neg (by decide)];obtain⟨cap',hc'⟩:=zFm (x:=ms ((l.drop k).take (i-k))) (u:=tk) ha;refine go _ _ cap' (qs++[(ms ((l.drop k).take (i-k)),tk)]) (ps++[(l.drop k).take (i-k)]) (fun b o e=>(Heap.get?_update_other _ _ (hne b o e)).trans (hkeep b o e)) hc' (by simp[hqs]) ?_ (by simp;omega);rw[←hfl,ht,List.flatten_append];simp
  ·rename_i hnlt;have hnlt':¬k<i:=hnlt;have hik:i=k:=by omega
   rw[if_neg (by decide)];refine go _ _ _ qs ps hkeep ha hqs ?_ (by omega);rw[←hfl,ht,hik];simp
 | none=>
  refine zJA hop ?_;dsimp only;have hesc:=zFL (zEa hop);rw[hesc] at hfl;split
  ·rename_i hlt;have hlt':k<l.length:=hlt;refine zzwqb (m:=reSlice _ _ _ _) ?_;show wpAny _ _ (mkStr ⟨l.toArray.extract k l.length⟩) _ _ _;rw[zDc];refine wpAny_mkStr ?_ (by rw[sizeLine_eq];simp[Str.length];omega);refine zzwqb (wpAny_updateSeq (s:={s₀ with heap:=h,toks:=tk+1}) ha rfl ?_ (by have:(strValues qs).toArray.size=qs.length:=(by simp[strValues]);rw[this,sizeLine_eq];omega) (by rw[Array.size_push];have:(strValues qs).toArray.size=qs.length:=(by simp[strValues]);rw[this,sizeLine_eq];omega));obtain⟨cap',hc'⟩:=zFm (x:=ms ((l.drop k).take (l.length-k))) (u:=tk) ha;refine zLZ (n:=n) (qs:=qs++[(ms ((l.drop k).take (l.length-k)),tk)]) (ps:=ps++[(l.drop k).take (l.length-k)]) hlen hc' (by simp[hqs]) ?_ fun tk' u=>hR _ _ u fun b o e=>(Heap.get?_update_other _ _ (hne b o e)).trans (hkeep b o e);have e9:(l.drop k).take (l.length-k)=l.drop k:=List.take_of_length_le (by simp);rw[e9,List.flatten_append];simpa using hfl
  ·rename_i hnlt;have hnlt':¬k<l.length:=hnlt;refine zLZ (n:=n) (qs:=qs) (ps:=ps) hlen ha hqs ?_ fun tk' u=>hR _ _ u hkeep;rw[List.drop_of_length_le (by omega)] at hfl;simpa using hfl
end
end Mine.Internal
end
noncomputable section
open PySem PySem.Builtin PySem.Builtin.Re PySem.Calls PyProof.Rows
namespace MineF
open PySem PySem.F
theorem zF8:Slot "function" "__call__" "function.__call__":=
 .of (owner:="function") (n:="__call__") (by rw[typeLookup_type,builtinLookup_eq_fast];kernel_rfl) (by decide +kernel) (by decide +kernel) (by decide +kernel)
  (by first | exact .inl (by decide +kernel) | exact .inr (by decide +kernel)) (by rw[isSubtype_type];kernel_rfl)
theorem zBE:isSubtype (.type "str") (.type "bytearray")=pure false:=by rw[isSubtype_type];kernel_rfl
end MineF
namespace Mine.Internal
section
variable {prog:Program} {w:World} {A:Around} {R:Result→Shared→Prop} {E:Value→Shared→Prop} {s₀:Shared} {hb:Heap} {p a rf:Addr} {l:List Nat} {t:Tok}
theorem zKU {x y:Value}:reNamed "re.Pattern.sub" "sub" ["repl","string","count"] 2 [x,y] []=pure [some x,some y,none]:=rfl
theorem zI3 {s:Shared}{o:Obj}{Q:PySem.Fin→Shared→Prop}(hf:s.heap.get? rf=some o)(hcls:o.cls=.type "function")(hp:PatAt s.heap p)
  (hQ:Q (.again (.builtin "re.Pattern.sub.loop" (zDL p rf s.heap.objs.size l t 0 0))) {s with heap:=s.heap.push {cls:=.type "list",data:=.seq #[]}}):
  wpAny (model prog w) A («re.Pattern.sub» ⟨[.ref p,.ref rf,.str (ms l) t],[]⟩) Q E s:=by
 show wpAny _ _ (reSubstitute "re.Pattern.sub" "sub" false _) _ _ _;unfold reSubstitute;refine zzwqb (wpAny_of_eq zKU ?_);dsimp only;refine zzwqb (zzwqp ?_);refine zzwqb (wpAny_specialOf (T:="function") ⟨o,hf,hcls⟩ MineF.zF8.lookup ?_);simp only[Option.isSome_some,if_true];refine zzwqb (zzwqp ?_);refine zzwqb (zzwqp ?_);refine zzwqb (wpAny_holding (zDn hp ?_));dsimp only;rw[if_pos (by decide)];refine zzwqb (m:=reNotHeld _ _) ?_;unfold reNotHeld;refine zzwqb (wpAny_isInstance (T:="str") (b:=false) (typeIs_str _ _ _) MineF.zBE ?_);rw[if_neg Bool.false_ne_true];refine zzwqp ?_;refine zzwqb (wpAny_newList ?_ (by show 0≤sizeLine;exact Nat.zero_le _));exact zzwqp hQ
theorem zLp {s:Shared}{o:Obj}{Q:Value→Shared→Prop}(hf:s.heap.get? rf=some o)(hcls:o.cls=.type "function")(hp:PatAt s.heap p)(hlen:l.length≤100000)
  (hrepl:∀ (h:Heap) (tk:Nat) (m i c:Nat),(∀ b o,s.heap.get? b=some o→h.get? b=some o)→zBq h m p l t i→l[i]? = some c→isOp c=true→
   wpAny (model prog w) A.in1 (call (.ref rf) [.ref m]) (fun v s'=>∃ h' tk' u,v=.str (ms [92,c]) u∧s'={s with heap:=h',toks:=tk'}∧∀ b o,h.get? b=some o→h'.get? b=some o) (fun _x _x=>False) {s with heap:=h,toks:=tk})
  (hQ:∀ h' tk' u,(∀ b o,s.heap.get? b=some o→h'.get? b=some o)→Q (.str (ms (esc l)) u) {s with heap:=h',toks:=tk'}):
  wpAny (model prog w) A (call (.builtin "re.Pattern.sub") [.ref p,.ref rf,.str (ms l) t]) Q E s:=by
 obtain⟨op,vs,tu,ot,xs,n,h1,h2,h3,h4,r⟩:=id hp;refine wpAny_call (codeAny_call_builtin MineF.zBN.plain MineF.zFN (MineF.zBN.check _ _ _ _ _ _ _ _ ⟨op,h1,h2⟩ (MineF.zGC _ _ _) ?_));have hk0:∀ b o,s.heap.get? b=some o→(s.heap.push (lst #[] 0)).get? b=some o:=fun b o e=>Heap.get?_push_of_some _ e;refine zI3 hf hcls hp ⟨plainId_quiet MineF.zBo _,?_⟩;refine zKF (s₀:=s) (hb:=s.heap) (a:=s.heap.objs.size) hp ?_ hlen hrepl (fun h' tk' u hk=>?_) l.length 0 0 (s.heap.push (lst #[] 0)) s.toks 0 [] [] (Int.toNat_natCast _) (Nat.zero_le _) hk0 (Heap.get?_push_size _ rfl) rfl (by simp) (by simp)
 ·cases q:s.heap.get? s.heap.objs.size with
  | none=>rfl
  | some o=>exact absurd (Heap.lt_size q) (Nat.lt_irrefl _)
 ·exact hQ h' tk' u hk
end
end Mine.Internal
end
noncomputable section
open PySem PySem.W PySem.Builtin PySem.Builtin.Re PySem.Calls PyProof.Rows
namespace Mine.Internal
noncomputable def zBp (p:Pos):Arguments:={posonlyargs:=[],args:=[{arg:="_m",annotation:=none,pos:=p}],vararg:=none,kwonlyargs:=[],kw_defaults:=[],kwarg:=none,defaults:=[]}
noncomputable def zAO:Scope:={kind:=.function,names:=[("_m",.local)],isGenerator:=false,isCoroutine:=false,more:=[]}
noncomputable def zBg (p1 p2 p3 p4 p5 p6 p7 p8:Pos):Expr:=
 .BinOp (.Constant (.str "\\") 0 p1) .Add (.BoolOp .Or [.Call (.Attribute (.Name "_m" p2) "group" p3) [.Constant (.int 1) 0 p4] [] p5,.Constant (.str "") 0 p6] p7) p8
section
variable {g:GC} {A:Around} {E:Value→Shared→Prop} {s:Shared} {p m:Addr} {l:List Nat} {t:Tok} {i c:Nat} {env:Env}
theorem zK4 {p1 p2 p3 p4 p5 p6 p7 p8:Pos}{mm:Str→Option Value}{Q:Value→Shared→Prop}(hline:(p3.endLine==p5.line)=true)(hs:env.scope=zAO)(hn:s.heap.Ns env.locals mm)(hm:mm "_m"=some (.ref m))(hM:zBq s.heap m p l t i)(hc:l[i]? = some c)
  (hQ:∀ tk u,Q (.str (ms [92,c]) u) {s with toks:=tk}):wpAny (model g.prog g.w) A (eval (zBg p1 p2 p3 p4 p5 p6 p7 p8) env) Q E s:=by
 unfold zBg;refine wpAny_BinOp (wpAny_Constant_str (k:=0) (pos:=p1) ?_);show wpAny _ A (do
  let v ←eval (.Call (.Attribute (.Name "_m" p2) "group" p3) [.Constant (.int 1) 0 p4] [] p5) env
  standAt p7
  let t ←holding [v] (truthy v)
  match BoolOp.Or,t with
  | .And,false | .Or,true=>pure v
  | _,_=>boolOp p7 .Or (evalEach [.Constant (.str "") 0 p6] env)) _ _ _
 have htr:backTo p5 (starEach [.Constant (.int 1) 0 p4] env)=[(false,eval (.Constant (.int 1) 0 p4) env)]:=by rw[zAa rfl];rfl
 refine ze12 (id hM) fun tu hM1 hM2=>?_;refine zzwqb (wpAny_Call_method_late rfl (by rw[htr];rfl) hline rfl (wpAny_Name (wpAny_loadName_local (s:={s with toks:=s.toks+1}) (by rw[hs];rfl) (by unfold Env.kindOf;rw[hs];rfl) hn hm ?_)));refine⟨"re.Match","re.Match.group",MineF.zDE,MineF.zBJ,MineF.zDD,⟨_,hM1,rfl⟩,fun a q=>(by cases q;exact⟨_,hM1,rfl⟩),?_⟩;refine zAn rfl zAD ?_;rw[zAa rfl];refine Calls.spliced_cons (wpAny_Constant_int (k:=0) (pos:=p4) ?_);refine Calls.spliced_nil ?_;refine wpAny_call_entry MineF.zBJ ⟨_,hM1,rfl⟩ MineF.zDe (zGX (p:=p) (l:=l) (t:=t) (i:=i) hM hc ?_) (MineF.zDG _ _);refine zzwqb (wpAny_standAt (zzwqb (wpAny_holding ?_)));refine PySem.P.truthy_str (by have e:(ms [c]).length=1:=rfl;rw[e];decide) ?_;refine zzwqp ?_;have e1:("\\":Str)=ms [92]:=rfl;rw[e1];exact add_str (fun t' tk=>hQ _ _) (by show 1+1≤sizeLine;decide)
theorem zK3 {p0 p1 p2 p3 p4 p5 p6 p7 p8:Pos}{rf:Addr}{qual:Str}{pm cdv ctv:Value}(hline:(p3.endLine==p5.line)=true)
  (ho:s.heap.get? rf=some {cls:=.type "function",data:=.func (kla_fn "<lambda>" qual (zBp p0) (zBg p1 p2 p3 p4 p5 p6 p7 p8) zAO [] pm cdv ctv)}) (hcd:s.heap.CodeRec cdv qual) (hlim:s.heap.NoLimit) (hroom:A.depth<recursionLimit)
  (hM:zBq s.heap m p l t i) (hc:l[i]? = some c):
  wpAny (model g.prog g.w) A (call (.ref rf) [.ref m]) (fun v s'=>∃ h' tk' u,v=.str (ms [92,c]) u∧s'={s with heap:=h',toks:=tk'}∧∀ b o,s.heap.get? b=some o→h'.get? b=some o) (fun _x _x=>False) s:=by
 refine wpAny_call (kla_callFunE hroom ho rfl rfl rfl rfl hcd ?_);have hb:bindArgs (kla_fn "<lambda>" qual (zBp p0) (zBg p1 p2 p3 p4 p5 p6 p7 p8) zAO [] pm cdv ctv) ⟨[.ref m],[]⟩=(pure [("_m",Value.ref m)]:Sem (List (Str×Value))):=rfl;rw[hb];refine zzwqp (wpAny_newFunctionEnv (by show ∀ x∈zAO.names,x.2≠NameKind.cell;decide) (by intro x hx;rcases List.mem_cons.mp hx with rfl | hx;rfl;cases hx) (fun h₁ hns hsb=>?_) rfl);have hk₁:∀ b o,s.heap.get? b=some o→h₁.get? b=some o:=fun b o e=>hsb.extBut b o (Nat.ne_of_lt (Heap.lt_size e)) (Heap.get?_push_of_some _ e);refine⟨hlim.keeps hk₁,kla_codeExpr ?_⟩;exact zK4 (s:={s with heap:=h₁,toks:=s.toks+1}) (p:=p) (m:=m) (l:=l) (t:=t) (i:=i) hline rfl hns rfl (hM.keeps hk₁) hc fun tk u=>⟨h₁,tk,u,rfl,rfl,hk₁⟩
end
end Mine.Internal
end
noncomputable section
open PySem PySem.W PySem.Builtin PySem.Builtin.Re PySem.Calls PyProof.Rows
namespace Mine.Internal
section
variable {g:GC} {j:Nat} {fs:FS}
theorem zK2 {A:Around}{ids Wo env gh η kp}{s:Shared}{c:Addr}{q:Str}{p0 p1 p2 p3 p4 p5 p6 p7 p8 lp:Pos}{Q:Value→Shared→Prop}(hG:GOk g)(hg:GenOk g c)(hc:fs.code=some (c,q))(hkn:(lp,q++"<lambda>")∈g.known)
  (hfun:∀ p' q',(p',q')∈g.known→p'.line=lp.line→p'.col=lp.col→q'=q++"<lambda>") (hE:EnvOk fs env) (hR:Rel g ids Wo env fs.vm gh η kp s)
  (h:∀ rf s' pm cdv ctv,Ext g s s'→s'.heap.get? rf=some {cls:=.type "function",data:=.func (kla_fn "<lambda>" (q++"<lambda>") (zBp p0) (zBg p1 p2 p3 p4 p5 p6 p7 p8) zAO [] pm cdv ctv)}→s'.heap.CodeRec cdv (q++"<lambda>")→(∃ c2,cdv=.ref c2∧c2≠g.P)→Q (.ref rf) s'):
  wpAny (model g.prog g.w) A (eval (.Lambda (zBp p0) (zBg p1 p2 p3 p4 p5 p6 p7 p8) zAO lp) env) Q Fl s:=by
 refine ze02 (hE.code c q hc) fun hcode hq=>?_;refine ze21 hg.mod fun bm ob hB=>?_;refine ze13 (id hR.tab) fun ps hP hts hk=>?_;have hP0:∀ b o,g.h0.get? b=some o→b≠g.P:=fun b o e h=>by have:=hR.offP.2;rw[←h,e] at this;cases this
 have hd:=hg.hd.keeps hR.keep0
 have hbm:bm≠mainGlobals:=fun e=>by
  refine ze33 hB.ns fun o es ep ho hd2 _=>?_;rw[←e,hB.obj] at ho;cases ho;rw[hB.data] at hd2;cases hd2
 have hbA:s.heap.BuiltinsAt g.mg g.P:=⟨bm,ob,hB.name,hB.ne,hbm,hP0 _ _ hB.obj,hR.keep0 _ _ hB.obj,hB.cls,hB.dict,hB.data⟩
 have hgP:mainGlobals≠g.P:=by obtain⟨o,es,ep,ho,_⟩:=hG.glob;exact hP0 _ _ ho
 refine zAg (zznlr _) (zznlr _) (kla_eval rfl ?_);rw[hq];cases hf:codeAmong lp ps.toList with
 | some cv=>
  refine ze24 (hk lp cv hf) fun c' q' z6 e1 z0 e5=>?_;subst z6;refine ze13 z0 fun p' e2 e3 e4=>?_;clear z0;have e6:=hfun p' q' e2 e3 e4;subst e6;refine kla_makeFunctionHit (mg:=g.mg) rfl hE.globals (hG.glob.keeps hR.keep0) hcode hd hP hts hf hbA fun ctv h' tk hk' hsz hz1 hk1=>?_;have hx:∀ b o,s.heap.get? b=some o→(h'.push {cls:=.type "function",data:=.func (kla_fn "<lambda>" (q++"<lambda>") (zBp p0) (zBg p1 p2 p3 p4 p5 p6 p7 p8) zAO [] ((g.mg "__name__").getD .none) (.ref c') ctv)}).get? b=some o:=fun b o e=>Heap.get?_push_of_some _ (hk' b o e);exact h h'.objs.size _ _ _ ctv (Ext.of_heap hx hz1 hk1) (Heap.get?_push_size _ rfl) (e5.keeps hx) ⟨_,rfl,e1⟩
 | none=>
  refine kla_makeFunction (mg:=g.mg) rfl hE.globals (hG.glob.keeps hR.keep0) hcode hd hP hts hf hgP hbA fun c' ctv h' tk hx hge hlt hr ht hz1 hk1=>?_;have hcP:c'≠g.P:=fun e=>Nat.lt_irrefl _ (zznlv (e▸Heap.lt_size hP) hge);have T:=TabOk.grown hts hk hx ht hr hcP hkn;have hx2:∀ o b o',h'.get? b=some o'→(h'.push o).get? b=some o':=fun o b o' e=>Heap.get?_push_of_some _ e;exact h h'.objs.size _ _ _ ctv ⟨fun b o hb e=>hx2 _ b o (hx b o hb e),fun _x=>T.keeps (hx2 _),hz1,fun x=>x,rfl,hk1⟩ (Heap.get?_push_size _ rfl) (hr.keeps (hx2 _)) ⟨_,rfl,hcP⟩
noncomputable def rsubV (v:V):Option V:=(asStr v).bind fun l=>if l.length≤100000 then some (.str (esc l)) else none
theorem zPO {v:Str}{np ap pos p0 p1 p2 p3 p4 p5 p6 p7 p8 lp:Pos}{e2:Expr}{f c q}(hG:GOk g)(hg:GenOk g c)(hc:fs.code=some (c,q))(hkn:(lp,q++"<lambda>")∈g.known)
  (hfun:∀ p' q',(p',q')∈g.known→p'.line=lp.line→p'.col=lp.col→q'=q++"<lambda>") (hk:zAj fs.scope v=some .globalImplicit) (hp:∃ p,g.mg v=some (.ref p)∧PatAt g.h0 p) (he:SimC g j fs e2 f) (hl3:(p3.endLine==p5.line)=true)
  (hline:(ap.endLine==pos.line)=true) (hn2:notStar e2=true) (hd:(v==("__debug__":Str))=false):
  SimE g (j+1) fs (.Call (.Attribute (.Name v np) "sub" ap) [.Lambda (zBp p0) (zBg p1 p2 p3 p4 p5 p6 p7 p8) zAO lp,e2] [] pos) (fun η=>(f η).bind rsubV):=by
 intro A ids Wo env gh η kp s r hA hE hR hx;refine zbd hx fun y hf hx=>?_;refine zbd hx fun l hs hx2=>?_;cases zAv hs;refine ze02 (zAl hx2) fun hlen hx2=>?_;cases hx2;refine ze12 hp fun p hmg hpat=>?_;clear hp;have htr:backTo pos (starEach [.Lambda (zBp p0) (zBg p1 p2 p3 p4 p5 p6 p7 p8) zAO lp,e2] env)=[(false,eval (.Lambda (zBp p0) (zBg p1 p2 p3 p4 p5 p6 p7 p8) zAO lp) env),(false,eval e2 env)]:=by rw[zAa rfl,zAa hn2];rfl
 refine wpAny_Call_method_late rfl (by rw[htr];rfl) hline rfl (wpAny_Name (zCh hG hE hR hk hmg ?_) hd);obtain⟨op,vs,tu,ot,xs,n,h1,h2,h3,h4,_⟩:=id hpat;refine⟨"re.Pattern","re.Pattern.sub",MineF.zCA,MineF.zBN,MineF.zF1,⟨op,hR.keep0 _ _ h1,h2⟩,fun a q=>(by cases q;exact⟨_,hR.keep0 _ _ h1,h3⟩),?_⟩;refine zAn rfl (zAW hn2 zAD) ?_;rw[zAa rfl,zAa hn2];refine Calls.spliced_cons (zK2 hG hg hc hkn hfun hE hR fun rf s₁ pm cdv ctv e1 ho hcd hne=>?_);have hR1:=hR.ext e1;have hA':AOk j A:=⟨hA.1,by have:=hA.2.1;exact Nat.le_of_lt this,by have:=hA.2.2;exact zn153 this⟩
 refine Calls.spliced_cons (zzwqm (he A ids Wo env gh η kp s₁ _ hA' hE hR1 hf) (fun b s₂ q=>?_) fun _x _x h=>h);refine ze02 q fun e2 r2=>?_;clear q;refine ze13 r2.str fun t z1 c1 hz=>?_;subst z1;refine Calls.spliced_nil ?_;have hR2:=hR1.ext e2
 have hrP:rf≠g.P:=fun e=>by
  refine ze12 hR1.tab fun ps hP _=>?_;rw[e,hP] at ho;cases ho
 have ho2:=e2.heap _ _ hrP ho
 have hcd2:s₂.heap.CodeRec cdv (q++"<lambda>"):=by
  refine ze44 hcd fun c2 o2 vs2 t2 e3 h5 h6 h7=>?_;clear hcd;subst e3;have hcP:c2≠g.P:=by obtain⟨c3,e4,e5⟩:=hne;cases e4;exact e5
  exact⟨c2,o2,vs2,t2,rfl,e2.heap _ _ hcP h5,h6,h7⟩
 refine zAg (zznlr _) (zznlr _) ?_;refine zLp ho2 rfl (hpat.keeps hR2.keep0) hlen (fun h tk m i c hkeep hm hic hop=>?_) fun h' tk' u hkeep hz1 hk1=>⟨(e1.trans e2).trans (Ext.of_heap hkeep hz1 hk1),.str _ _ (fun d hd=>?_) ?_⟩
 ·refine zzwqm (zK3 (A:=A.in1) (s:={s₂ with heap:=h,toks:=tk}) hl3 (hkeep _ _ ho2) (hcd2.keeps hkeep) (hG.lim.keeps fun b o e=>hkeep b o (hR2.keep0 b o e)) ?_ hm hic) (fun v s' q=>q) fun _x _x h=>h;exact hA.depth
 ·refine ze12 (List.mem_flatMap.mp hd) fun b hb1 hb2=>?_;split at hb2
  ·rcases List.mem_cons.mp hb2 with rfl | hb2
   ·decide
   ·have:d=b:=by simpa using hb2
    exact c1 d (this▸hb1)
  ·have:d=b:=by simpa using hb2
   exact c1 d (this▸hb1)
 ·have:=zHd l;rw[sizeLine_eq];exact zn154 this hlen
end
end Mine.Internal
end
noncomputable section
open PySem PySem.W PySem.Calls PyProof.Rows PySem.Builtin.Re
namespace Mine.Internal
noncomputable def bodyOf (p:Program)(x:Str):List Stmt:=match p.theDef x with
 | some (_,b,_)=>b
 | none=>[]
noncomputable def zAd (p:Program)(x:Str):Scope:=match p.theDef x with
 | some (_,_,s)=>s
 | none=>zAO
noncomputable def zBm (p:Program)(x:Str):Arguments:=match p.theDef x with
 | some (a,_,_)=>a
 | none=>zBp ⟨0,0,0,0⟩
noncomputable def drop (P:Addr)(h:Heap):Heap:={h with objs:=h.objs.modify P fun o=>{o with data:=.freed}}
theorem zDS (P:Addr)(h:Heap)(b:Addr):(drop P h).get? b=if b=P then none else h.get? b:=by
 unfold drop Heap.get?;dsimp only;rw[Array.getElem?_modify];by_cases e:P=b
 ·subst e;rw[if_pos rfl,if_pos rfl];cases h.objs[P]?<;>rfl
 ·rw[if_neg e,if_neg (Ne.symm e)]
theorem zIz (P:Addr)(h:Heap)(b:Addr)(o:Obj)(e:(drop P h).get? b=some o):h.get? b=some o:=by
 rw[zDS] at e;by_cases hb:b=P
 ·rw[if_pos hb] at e;cases e
 ·rw[if_neg hb] at e;exact e
theorem zBT {P:Addr}{h:Heap}{b:Addr}{o:Obj}(e:h.get? b=some o)(hb:b≠P):(drop P h).get? b=some o:=by
 rw[zDS,if_neg hb];exact e
theorem zHe {P a:Addr}{h:Heap}{m}(x:h.Ns a m)(ha:a≠P):(drop P h).Ns a m:=
 let ⟨o,es,ep,ho,r⟩:=x;⟨o,es,ep,zBT ho ha,r⟩
theorem zDs {h:Heap}{a P:Addr}{o:Obj}{ps}(hP:h.get? P=some (tabObj ps))(ho:h.get? a=some o)(hd:o.data≠.fields ps):a≠P:=fun e=>by
 subst e;rw[hP] at ho;cases ho;exact hd rfl
theorem ns_ne {h:Heap}{a P:Addr}{m ps}(hP:h.get? P=some (tabObj ps))(x:h.Ns a m):a≠P:=
 let ⟨_,_,_,ho,hd,_⟩:=x;zDs hP ho (by rw[hd];intro e;cases e)
noncomputable def vInt:Value→Option Int
 | .int k _=>some k
 | _=>none
noncomputable def vStr:Value→Option Str
 | .str k _=>some k
 | _=>none
theorem zMi {v a}(h:vInt v=some a):∃ t,v=.int a t:=by cases v<;>first | exact noneE h | (cases h;exact⟨_,rfl⟩)
theorem zMh {v a}(h:vStr v=some a):∃ t,v=.str a t:=by cases v<;>first | exact noneE h | (cases h;exact⟨_,rfl⟩)
noncomputable def zBC (e:DictEntry):Option Nat:=(vInt e.key).bind fun k=>(vStr e.val).bind fun x=>if 0≤k∧e.hash=hashInt k∧x.cps.toList=[92,k.toNat] then some k.toNat else none
theorem zDt {e:DictEntry}{n:Nat}(h:zBC e=some n):∃ k t x u,e.key=.int k t∧e.val=.str x u∧(0≤k∧e.hash=hashInt k∧x.cps.toList=[92,k.toNat])∧k.toNat=n:=by
 refine zbd h fun k h1 h=>?_;refine zbd h fun x h2 h=>?_;refine ze02 (zAl h) fun h3 h=>?_;refine ze11 (zMi h1) fun t h1=>?_;refine ze11 (zMh h2) fun u h2=>?_;exact⟨k,t,x,u,h1,h2,h3,Option.some.inj h⟩
noncomputable def zFQ:Data→Option (Array Value)
 | .fields vs=>some vs
 | _=>none
noncomputable def dSeq:Data→Option (Array Value×Nat)
 | .seq xs n=>some (xs,n)
 | _=>none
noncomputable def dDict:Data→Option (Array DictEntry×Nat)
 | .dict es n=>some (es,n)
 | _=>none
noncomputable def dFunc:Data→Option FuncData
 | .func fd=>some fd
 | _=>none
noncomputable def vRef:Value→Option Addr
 | .ref a=>some a
 | _=>none
theorem zE0 {d vs}(h:zFQ d=some vs):d=.fields vs:=by cases d<;>first | exact noneE h | (cases h;rfl)
theorem zNu {d x}(h:dSeq d=some x):d=.seq x.1 x.2:=by cases d<;>first | exact noneE h | (cases h;rfl)
theorem zH8 {d x}(h:dDict d=some x):d=.dict x.1 x.2:=by cases d<;>first | exact noneE h | (cases h;rfl)
theorem zLl {d x}(h:dFunc d=some x):d=.func x:=by cases d<;>first | exact noneE h | (cases h;rfl)
theorem zGE {v a}(h:vRef v=some a):v=.ref a:=by cases v<;>first | exact noneE h | (cases h;rfl)
noncomputable def zL4 (S:List Nat)(o:Obj):Bool:=decide (o.cls=.type "dict")&&o.dict.isNone&&o.slots.isEmpty&&(dDict o.data).any fun x=>x.1.toList.map zBC==S.map some
noncomputable def zOx (h:Heap)(tu:Addr):Bool:=(h.get? tu).any fun o=>(dSeq o.data).any fun x=>((x.1.map reRawOf).map (·.toNat)).toList==zAC.toList
noncomputable def zL3 (h:Heap)(p:Addr):Bool:=(h.get? p).any fun o=>decide (o.cls=.type "re.Pattern")&&o.dict.isNone&&(zFQ o.data).any fun vs=>reRawNat (vs.getD 2 .none)==1&&reRawNat (vs.getD 6 .none)==0&&(vRef (vs.getD 5 .none)).any (zOx h)
noncomputable def zL2 (h:Heap)(P:Addr):Bool:=(h.get? P).any fun o=>decide (o.cls=.none)&&o.dict.isNone&&o.slots.isEmpty&&(zFQ o.data).any fun ws=>ws.isEmpty
noncomputable def zNz (h:Heap)(c:Addr):Bool:=(h.get? c).any fun o=>(zFQ o.data).any fun vs=>((vs[11]?).bind vRef).any fun P=>codeHdIn [(c,o)] c P&&zL2 h P
noncomputable def chkFn (h:Heap)(f:Addr):Bool:=(h.get? f).any fun o=>(dFunc o.data).any fun fd=>(vRef fd.code).any (zNz h)
noncomputable def zL1 (bs:List Str)(S:List Nat)(h:Heap):Bool:=(h.get? mainGlobals).any fun o=>(dDict o.data).any fun x=>(bs.all fun y=>(nsFind x.1 y).isNone) &&
 (((nsFind x.1 "_twin_re_1").bind vRef).any (zL3 h)&&(((nsFind x.1 "_special_chars_map").bind vRef).any fun d=>(h.get? d).any (zL4 S)&&d != sysModules)&&((nsFind x.1 "_translate").bind vRef).any (chkFn h))
noncomputable def zIk (S:List Nat)(h:Heap)(d:Addr):Prop:=∃ o es ep,h.get? d=some o∧o.ExactDict∧o.data=.dict es ep∧es.toList.map zBC=S.map some
noncomputable def Tab0 (h:Heap)(f c P:Addr):Prop:=∃ o fd,h.get? f=some o∧o.data=.func fd∧fd.code=.ref c∧CodeHd h c P∧h.get? P=some (tabObj #[])
inductive Says (bs:List Str)(S:List Nat)(h:Heap):Prop
 | mk (o:Obj) (es:Array DictEntry) (ep:Nat) (p d f c P:Addr):h.get? mainGlobals=some o→o.data=.dict es ep→(∀ x∈bs,nsFind es x=none)→nsFind es "_twin_re_1"=some (.ref p)→PatAt h p→
  nsFind es "_special_chars_map"=some (.ref d)→zIk S h d→(d==sysModules)=false→nsFind es "_translate"=some (.ref f)→Tab0 h f c P→Says bs S h
theorem any_some {α:Type}{o:Option α}{f:α→Bool}(h:o.any f=true):∃ x,o=some x∧f x=true:=by
 cases o with
 | none=>cases h
 | some x=>exact⟨x,rfl,h⟩
theorem zFl {o:Option Value}{f:Addr→Bool}(h:(o.bind vRef).any f=true):∃ a,o=some (.ref a)∧f a=true:=by
 refine ze12 (any_some h) fun a h1 h2=>?_;refine zbd h1 fun v h3 h4=>?_;exact⟨a,by rw[h3,zGE h4],h2⟩
theorem zN8 {h:Heap}{p:Addr}(e:zL3 h p=true):PatAt h p:=by
 refine ze12 (any_some e) fun o ho e=>?_;refine ze02 (Bool.and_eq_true_iff.mp e) fun e e3=>?_;refine ze02 (Bool.and_eq_true_iff.mp e) fun e1 e2=>?_;refine ze12 (any_some e3) fun vs hv e4=>?_;refine ze02 (Bool.and_eq_true_iff.mp e4) fun e5 e6=>?_;refine ze02 (Bool.and_eq_true_iff.mp e5) fun e7 e8=>?_;refine ze12 (any_some e6) fun tu ht e9=>?_;refine ze12 (any_some e9) fun ot hot e9=>?_;refine ze12 (any_some e9) fun x hx e9=>?_;exact⟨o,vs,tu,ot,x.1,x.2,ho,of_decide_eq_true e1,Option.isNone_iff_eq_none.mp e2,zE0 hv,beq_iff_eq.mp e7,beq_iff_eq.mp e8,zGE ht,hot,zNu hx,Array.toList_inj.mp (beq_iff_eq.mp e9)⟩
theorem zOf {S:List Nat}{o:Obj}(e:zL4 S o=true):∃ es ep,o.ExactDict∧o.data=.dict es ep∧es.toList.map zBC=S.map some:=by
 refine ze02 (Bool.and_eq_true_iff.mp e) fun e e3=>?_;refine ze02 (Bool.and_eq_true_iff.mp e) fun e e4=>?_;refine ze02 (Bool.and_eq_true_iff.mp e) fun e1 e2=>?_;refine ze12 (any_some e3) fun x hx e5=>?_;exact⟨x.1,x.2,⟨zzode e1,Option.isNone_iff_eq_none.mp e2,by simpa using e4⟩,zH8 hx,beq_iff_eq.mp e5⟩
theorem zMm {h:Heap}{P:Addr}(e:zL2 h P=true):h.get? P=some (tabObj #[]):=by
 refine ze12 (any_some e) fun o ho e=>?_;refine ze02 (Bool.and_eq_true_iff.mp e) fun e e3=>?_;refine ze02 (Bool.and_eq_true_iff.mp e) fun e e4=>?_;refine ze02 (Bool.and_eq_true_iff.mp e) fun e1 e2=>?_;refine ze12 (any_some e3) fun ws hw e5=>?_;have e1:=zzode e1;have e2:=Option.isNone_iff_eq_none.mp e2;have e3:=zE0 hw;have e4:o.slots = #[]:=by simpa using e4
 have e5:ws = #[]:=by simpa using e5
 rw[ho];obtain⟨a,b,c,d⟩:=o;simp only at e1 e2 e3 e4;rw[e1,e2,e3,e4,e5]
set_option tactic.hygienic true in
theorem fn_of {h:Heap}{f:Addr}(e:chkFn h f=true):∃ c P,Tab0 h f c P:=by
 refine ze12 (any_some e) fun o ho e=>?_;refine ze12 (any_some e) fun fd hfd e=>?_;refine ze12 (any_some e) fun c hc e=>?_;refine ze12 (any_some e) fun oc hoc e=>?_;refine ze12 (any_some e) fun vs hvs e=>?_;refine ze12 (any_some e) fun P hP e=>?_;refine ze02 (Bool.and_eq_true_iff.mp e) fun e1 e2=>?_;refine⟨c,P,o,fd,ho,zLl hfd,zGE hc,codeHd_of_K (K:=[(c,oc)]) (fun a o q=>?_) e1,zMm e2⟩;simp only[List.lookup] at q;split at q
 ·rename_i q2;cases q;rw[beq_iff_eq.mp q2];exact hoc
 ·cases q
theorem zMD {bs:List Str}{S:List Nat}{h:Heap}(e:zL1 bs S h=true):Says bs S h:=by
 refine ze12 (any_some e) fun o ho e=>?_;refine ze12 (any_some e) fun x hx e=>?_;refine ze02 (Bool.and_eq_true_iff.mp e) fun e1 e2=>?_;refine ze02 (Bool.and_eq_true_iff.mp e2) fun e3 e4=>?_;refine ze02 (Bool.and_eq_true_iff.mp e3) fun e5 e6=>?_;refine ze12 (zFl e5) fun p hp e5=>?_;refine ze12 (zFl e6) fun d hd e6=>?_;refine ze12 (zFl e4) fun f hf e4=>?_;refine ze02 (Bool.and_eq_true_iff.mp e6) fun e7 e8=>?_;refine ze12 (any_some e7) fun od hod e7=>?_;refine ze23 (zOf e7) fun es' ep' q1 q2 q3=>?_;refine ze21 (fn_of e4) fun c P hT=>?_;exact⟨o,x.1,x.2,p,d,f,c,P,ho,zH8 hx,fun y hy=>Option.isNone_iff_eq_none.mp (List.all_eq_true.mp e1 y hy),hp,zN8 e5,hd,⟨od,es',ep',hod,q1,q2,q3⟩,by simpa using e8,hf,hT⟩
theorem zDC {h h':Heap}{c P:Addr}(x:CodeHd h c P)(hk:h.get? c=h'.get? c):CodeHd h' c P:=by
 obtain⟨o,vs,file,tf,flags,tg,inF,text,tt,ho,r⟩:=x;exact⟨o,vs,file,tf,flags,tg,inF,text,tt,hk▸ho,r⟩
theorem zIs {bs:List Str}{S:List Nat}{h h':Heap}(x:Says bs S h)(hk:∀ b o,h.get? b=some o→h'.get? b=some o):Says bs S h':=by
 obtain⟨o,es,ep,p,d,f,c,P,h1,h2,h3,h4,h5,h6,⟨od,es',ep',q1,q2⟩,h7,h8,⟨of,fd,r1,r2,r3,r4,r5⟩⟩:=x;refine⟨o,es,ep,p,d,f,c,P,hk _ _ h1,h2,h3,h4,h5.keeps hk,h6,⟨od,es',ep',hk _ _ q1,q2⟩,h7,h8,⟨of,fd,hk _ _ r1,r2,r3,zDC r4 ?_,hk _ _ r5⟩⟩;obtain⟨o,_,_,_,_,_,_,_,_,ho,_⟩:=r4;rw[ho,hk _ _ ho]
noncomputable def hook (bs:List Str)(S:List Nat):Hook where
 α:=Bool
 obs:=fun s=>zL1 bs S s.heap
 val:=fun _=>true
 says:=fun _ h=>Says bs S h
 of:=fun _ _ e=>zMD e
 keeps:=fun _ _ _ x hk=>zIs x hk
theorem zGg {c:Nat}:∀ {l:List DictEntry} {S:List Nat},l.map zBC=S.map some→
  (c∈S→∃ e u,l.find? (fun e=>Value.isInt (c:Int) e.key)=some e∧e.val=.str (ms [92,c]) u)∧(c∉S→l.find? (fun e=>Value.isInt (c:Int) e.key)=none)
 | [],[],_=>⟨fun h=>(nomatch h),fun _x=>rfl⟩
 | e::l,d::S,h=>by
  refine ze02 (List.cons.inj h) fun h1 h2=>?_;have ih:=zGg (c:=c) h2;refine ze44 (zDt h1) fun k t x u hk hv z2 hd=>?_;refine ze03 z2 fun h3 _ h5=>?_;clear z2;have hx:x=ms [92,k.toNat]:=by cases x;simp only at h5;rw[←h5]
  have hi:Value.isInt (c:Int) e.key=decide (c=d):=by
   rw[hk];simp only[Value.isInt];by_cases hc:c=d
   ·have:k=(c:Int):=by exact zn155 h3 hd hc
    simp[this,hc]
   ·have:¬k=(c:Int):=by (clear h3;exact zn156 hd hc)
    simp[this,hc]
  by_cases hc:c=d
  ·refine⟨fun _x=>⟨e,u,?_,?_⟩,fun hn=>absurd (by simp[hc]) hn⟩
   ·rw[List.find?_cons,hi];simp[hc]
   ·rw[hv,hx,hd,hc]
  ·refine⟨fun hm=>?_,fun hn=>?_⟩
   ·rw[List.find?_cons,hi];simp only[hc,decide_false];exact ih.1 (by simpa [hc] using hm)
   ·rw[List.find?_cons,hi];simp only[hc,decide_false];exact ih.2 (fun hm=>hn (by simp[hm]))
theorem zKZ {prog:Program}{w:World}{es:Array DictEntry}{S:List Nat}(h:es.toList.map zBC=S.map some):KeysOf (intKind prog w) es:=by
 intro e he;have hm:zBC e∈S.map some:=h▸List.mem_map_of_mem (Array.mem_toList_iff.mpr he);refine ze12 (List.mem_map.mp hm) fun d _ hd=>?_;refine ze44 (zDt hd.symm) fun k t x u hk hv hh _=>?_;exact⟨k,by rw[hk];simp[intKind,Value.isInt],hh.2.1⟩
theorem zKB {g:GC}{m:Str}{S:List Nat}{d:Addr}(hm:g.mg m=some (.ref d))(hs:(d==sysModules)=false)(hf:zIk S g.h0 d)(hS:∀ c∈S,c<1114112):zDm g m S:=by
 refine ze34 hf fun o es ep ho hx hd hl=>?_;clear hf;refine⟨d,fun k=>findBy (intKind g.prog g.w).is es k,hm,hs,⟨o,es,ep,ho,hx,hd,zKZ hl,fun _x=>rfl⟩,hS,fun c=>?_⟩;have:=zGg (c:=c) hl
 have e:∀ k:Int,findBy (intKind g.prog g.w).is es k=(es.toList.find? fun e=>Value.isInt k e.key).map (·.val):=fun k=>by
  unfold findBy;rw[←Array.find?_toList];rfl
 refine⟨fun hc=>?_,fun hc=>?_⟩
 ·refine ze22 (this.1 hc) fun x u h1 h2=>?_;exact⟨u,by dsimp only;rw[e,h1];exact congrArg some h2⟩
 ·dsimp only;rw[e,this.2 hc];rfl
end Mine.Internal
end
noncomputable section
open PySem PySem.W PySem.Calls PyProof.Rows PySem.Builtin.Re
namespace Mine.Internal
noncomputable def zDB:List Str:=["len","chr","ord","max","isinstance","range","list","object","str","tuple"]
noncomputable def specials:List Nat:=[40,41,91,93,123,125,63,42,43,45,124,94,36,92,46,38,126,35,32,9,10,13,11,12]
noncomputable def mkG (prog:Program)(w:World)(s:Shared)(mg mb:Str→Option Value)(P:Addr)(known:List (Pos×Str)):GC:=
 {prog:=prog,w:=w,h0:=drop P s.heap,P:=P,os:=s.os,known:=known,mg:=mg,mb:=mb}
noncomputable def DefIs (q:Program)(x:Str)(a:Arguments)(b:List Stmt)(sc:Scope):Prop:=((recsOf q).find? fun d=>d.name==x).map (fun d=>(d.params,d.body,d.scope))=some (a,b,sc)
structure Base (g:GC)(c:Addr)(q:Program)(nq:Str):Prop where
 ok:GOk g
 gen:GenOk g c
 pat:∃ p,g.mg "_twin_re_1"=some (.ref p)∧PatAt g.h0 p
 tab:zDm g "_special_chars_map" specials
 bs:Bs g
 fn:∀ x a b sc,DefIs q x a b sc→FnAt g x a b sc none
 tr:∀ a b sc,DefIs q "_translate" a b sc→FnAt g "_translate" a b sc (some (c,nq))
theorem fn_at {q:Program}{loose:List Str}{mean mg mb}{h:Heap}{x:Str}{a b sc}(T:Top q loose mean mg mb h)(hd:DefIs q x a b sc):
  ∃ (fv:Addr) (o:Obj) (pm cd doc:Value),mg x=some (.ref fv)∧h.get? fv=some o∧o.data=.func (docDef x a b sc pm cd doc)∧h.CodeRec cd x:=by
 refine ze12 (Option.map_eq_some_iff.mp hd) fun d hf he=>?_;have hx:d.name=x:=beq_iff_eq.mp (List.find?_some (p:=fun e:DefRec=>e.name==x) hf);refine ze54 (T.fn d (List.mem_of_find?_eq_some hf)) fun f o pm cd doc h1 h2 h3 h4=>?_;cases he;subst hx;exact⟨f,o,pm,cd,doc,h1,h2,h3,h4⟩
theorem zDA {h:Heap}{P:Addr}{cd:Value}{x:Str}(hP:h.get? P=some (tabObj #[]))(r:h.CodeRec cd x):(drop P h).CodeRec cd x:=by
 refine ze44 r fun c o vs t e ho hd hv=>?_;clear r;refine⟨c,o,vs,t,e,zBT ho (zDs hP ho fun q=>?_),hd,hv⟩;rw[hd] at q;cases q;simp at hv
theorem zNC {prog q:Program}{loose:List Str}{mean mg mb}{w:World}{s:Shared}(T:Top q loose mean mg mb s.heap)(Y:Says zDB specials s.heap)(known:List (Pos×Str)):
  ∃ P c,s.heap.get? P=some (tabObj #[])∧CodeHd s.heap c P∧Base (mkG prog w s mg mb P known) c q ("_translate"++".<locals>."):=by
 obtain⟨o,es,ep,p,d,f,c,P,h1,h2,h3,h4,h5,h6,⟨od,es',ep',q1,q2,q3,q4⟩,h7,h8,⟨of,fd,r1,r2,r3,r4,r5⟩⟩:=Y;refine ze34 (id T.g) fun o' es2 ep2 g1 g2 g3 g4=>?_;rw[h1] at g1;cases g1;rw[h2] at g2;cases g2;have ok:GOk (mkG prog w s mg mb P known):=⟨zHe T.g (ns_ne r5 T.g),zHe T.b (ns_ne r5 T.b),let ⟨mc,a,b⟩:=T.nolimit;⟨mc,zHe a (ns_ne r5 a),b⟩⟩
 have hb:∀ x∈zDB,mg x=none:=fun x hx=>by rw[←g4,h3 x hx]
 have tb:∀ (x:Str) v,x≠"__name__"→bootBuiltins x=some v→mb x=some v:=fun x v hx hv=>(T.builtins x hx).trans hv;refine⟨P,c,r5,r4,ok,⟨?_,?_⟩,⟨p,by rw[←h4];exact(g4 _).symm,?_⟩,?_,?_,?_,?_⟩
 ·refine zDC r4 ?_;have hcP:c≠P:=by obtain⟨_,_,_,_,_,_,_,_,_,_,_,_,_,_,_,_,_,_,r⟩:=r4;exact r
  exact(by show _=(drop P s.heap).get? c;rw[zDS,if_neg hcP])
 ·refine ze26 T.bmain fun bm ob b1 b2 b3 b4 b5 b6=>?_;refine⟨bm,ob,ok.glob,b1,b2,zBT b3 (zDs r5 b3 (by rw[b6];intro e;cases e)),b4,b5,b6⟩
 ·obtain⟨o,vs,tu,ot,xs,n,a1,a2,a3,a4,a5,a6,a7,a8,a9,a10⟩:=h5;refine⟨o,vs,tu,ot,xs,n,zBT a1 fun e=>?_,a2,a3,a4,a5,a6,a7,zBT a8 (zDs r5 a8 (by rw[a9];intro e;cases e)),a9,a10⟩;subst e;rw[r5] at a1;cases a1;cases a2
 ·refine zKB (g:=mkG prog w s mg mb P known) (d:=d) (by rw[←h6];exact(g4 _).symm) h7 ⟨od,es',ep',zBT q1 (zDs r5 q1 (by rw[q3];intro e;cases e)),q2,q3,q4⟩ (by decide)
 ·exact⟨ok,⟨hb _ (by decide),tb _ _ (by decide) (by decide +kernel)⟩,⟨hb _ (by decide),tb _ _ (by decide) (by decide +kernel)⟩,⟨hb _ (by decide),tb _ _ (by decide) (by decide +kernel)⟩,
   ⟨hb _ (by decide),tb _ _ (by decide) (by decide +kernel)⟩,⟨hb _ (by decide),tb _ _ (by decide) (by decide +kernel)⟩,⟨hb _ (by decide),tb _ _ (by decide) (by decide +kernel)⟩,
   ⟨hb _ (by decide),tb _ _ (by decide) (by decide +kernel)⟩,⟨hb _ (by decide),tb _ _ (by decide) (by decide +kernel)⟩,⟨hb _ (by decide),tb _ _ (by decide) (by decide +kernel)⟩,
   ⟨hb _ (by decide),tb _ _ (by decide) (by decide +kernel)⟩⟩
 ·intro x a b sc hd;refine ze54 (fn_at T hd) fun fv o pm cd doc e1 e2 e3 e4=>?_;exact⟨fv,o,pm,cd,doc,e1,zBT e2 (zDs r5 e2 (by rw[e3];intro e;cases e)),e3,zDA r5 e4,fun c q h=>by cases h⟩
 ·intro a b sc hd;refine ze54 (fn_at T hd) fun fv o pm cd doc e1 e2 e3 e4=>?_;refine⟨fv,o,pm,cd,doc,e1,zBT e2 (zDs r5 e2 (by rw[e3];intro e;cases e)),e3,zDA r5 e4,fun c' q' h=>?_⟩;cases h;refine⟨?_,rfl⟩;have:fv=f:=by
   rw[←g4,h8] at e1;cases e1;rfl
  subst this;rw[r1] at e2;cases e2;rw[r2] at e3;cases e3;exact r3
theorem zNa {ids:List Addr}{h:Heap}{W:Addr→Prop}{vs:List Value}{ns:List Int}(r:IntsAre vs ns):RL ids h W vs (ns.map .int):=by
 induction r with
 | nil=>exact .nil
 | cons n t _ ih=>exact .cons (.int n t) ih
theorem zJq (l:OpenLaw)(args:List WData):l.row.toRowW.claim.post args (.bool true) args=true:=by
 show (WShape.has [] (.bool true) .bool&&(WTm.eq .res (.lit (.bool true))).holds [] {args:=args,res:=some (.bool true),after:=args})=true;have h1:WShape.has [] (.bool true) .bool=true:=by first | rfl | decide
 have h2:(WTm.eq .res (.lit (.bool true))).holds [] {args:=args,res:=some (.bool true),after:=args}=true:=by
  simp only[WTm.holds,WTm.value];rw[show same (WData.bool true) (WData.bool true)=true from same_self _]
 rw[h1,h2];rfl
theorem finish {l:OpenLaw}{q:Program}{w:World}{s:Shared}{mg mb}{P c:Addr}{known:List (Pos×Str)}{fa a:Addr}{vs:List Value}{ns:List Int}{args:List WData}{cl mean}
  (hP:s.heap.get? P=some (tabObj #[])) (hC:CodeHd s.heap c P) (hgens:s.gens = #[]) (hm:mg "law"=some (.ref fa)) (hL:s.heap.IsList a vs.toArray) (hI:IntsAre vs ns) (hn:ns.length≤63)
  {F:List V→Option V} {sc:Scope} {j:Nat} (hj:j≤100) (hloc:∃ x r,(["script"]:List Str)=x::r∧sc.names.lookup x=some .local)
  (hF:∃ fv,(mkG l.prog w s mg mb P known).mg "law"=some (.ref fv)∧(∃ o fd,(mkG l.prog w s mg mb P known).h0.get? fv=some o∧o.data=.func fd)∧
   ∀ (A:Around) (ids:List Addr) (W:Addr→Prop) (s':Shared) (vs:List Value) (xs:List V) (r:V),AOk (j+1) A→St0 (mkG l.prog w s mg mb P known) ids W {s' with toks:=s'.toks+1}→
    (0<s'.toks∨∃ x l,(["script"]:List Str)=x::l∧sc.names.lookup x=some .local)→RL ids s'.heap W vs xs→F xs=some r→
    wpAny (model l.prog w) A (call (.ref fv) vs) (PE (mkG l.prog w s mg mb P known) ids W s' r) Fl s')
  (hr:F [.lst (ns.map .int)]=some (.bool true)):
  wpAny (model l.prog w) callerA (call (.ref fa) [.ref a])
   (fun v s'=>GoodWG l.row.toRowW.claim cl mean args s (.ok (.ret v)) s') (fun e s'=>GoodWG l.row.toRowW.claim cl mean args s (.error e) s') s:=by
 refine ze13 hF fun fv h1 _ h3=>?_;clear hF;have h1':mg "law"=some (.ref fv):=h1;rw[hm] at h1';cases h1';have hab:a≠P:=by obtain⟨o,ho,_,n,hd⟩:=hL;exact zDs hP ho (by rw[hd];intro e;cases e)
 refine zzwqm (h3 callerA [] (fun b=>b=P) s [.ref a] [.lst (ns.map .int)] (.bool true) ⟨rfl,?_,?_⟩ ?_ (.inr hloc) (.cons (.lst a vs _ ?_ hL hab (zNa hI)) .nil) hr) (fun v s' hv=>?_) fun _x _x h=>h.elim
 ·show 1+claimMargin+(j+1)≤900;have:claimMargin=300:=rfl;exact zn157 this hj
 ·show 4+30*(j+1)≤5000;exact zn158 hj
 ·refine⟨fun b o e=>zIz _ _ b o e,⟨#[],hP,trivial,fun _x _x e=>by cases e⟩,.of_eq hgens,rfl,?_,⟨fun n a e=>by simp at e,List.nodup_nil⟩,⟨rfl,fun b hb=>?_⟩,Nat.succ_pos _,fun n a e=>by simp at e⟩
  ·show (drop P s.heap).get? P=none;rw[zDS,if_pos rfl]
  ·rw[hb];exact Heap.lt_size hP
 ·have:sizeLine=16777216:=rfl;simp;exact zn159 this hn
 ·refine ze02 hv fun e r=>?_;clear hv;cases r;refine⟨.inl ⟨_,.bool true,[],rfl,fun cls=>rfl,.bool _,?_,fun _x=>⟨List.nodup_nil,fun a h=>by cases h⟩⟩,⟨fun b o ho=>?_,fun b o ho=>?_⟩,e.os,e.gens (.of_eq hgens)⟩
  ·exact zJq l args
  ·by_cases hb:b=P
   ·subst hb;rw[hP] at ho;cases ho;obtain⟨ps,hps,_⟩:=e.tab ⟨#[],hP,trivial,fun _x _x e=>by cases e⟩;refine .inr (.inl ⟨?_,rfl,#[],ps,rfl,?_⟩)
    ·obtain⟨o,vs,_,_,_,_,_,_,_,c1,c2,c3,c4,_⟩:=hC;exact⟨c,o,vs,c1,c2,c3,c4⟩
    ·show s'.heap.get? b=some {cls:=.none,data:=.fields (#[]++ps)};rw[Array.empty_append];exact hps
   ·exact .inl (e.heap b o hb ho)
  ·by_cases hb:b=P
   ·obtain⟨ps,hps,_⟩:=e.tab ⟨#[],hP,trivial,fun _x _x e=>by cases e⟩;exact⟨_,hb▸hps⟩
   ·exact⟨o,e.heap b o hb ho⟩
end Mine.Internal
end
noncomputable section
open PySem PySem.W PySem.Calls PyProof.Rows
namespace Mine.Internal
noncomputable abbrev SF:=List Slot→Option (Out×List Slot)
noncomputable abbrev EF:=List Slot→Option V
noncomputable def nmE (i:Nat):EF:=fun η=>rd η i
noncomputable def nmC (i:Nat):EF:=fun η=>rdc η i
noncomputable def kI (n:Int):EF:=fun _=>some (.int n)
noncomputable def kS (l:List Nat):EF:=fun _=>some (.str l)
noncomputable def kB (b:Bool):EF:=fun _=>some (.bool b)
noncomputable def kN:EF:=fun _=>some .none
noncomputable def tupE (f:List Slot→Option (List V)):EF:=fun η=>(f η).bind fun xs=>if xs.length≤1000 then some (.tup xs) else none
noncomputable def lstE (f:List Slot→Option (List V)):EF:=fun η=>(f η).bind fun xs=>if xs.length≤1000 then some (.lst xs) else none
noncomputable def lstN (f:List Slot→Option (List V)):List Slot→Option (List V):=fun η=>(f η).bind fun xs=>if xs.length≤1000 then some xs else none
noncomputable def valN (f:List Slot→Option (List V)):EF:=fun η=>(f η).map .lst
noncomputable def notT (f:List Slot→Option Bool):List Slot→Option Bool:=fun η=>(f η).map not
noncomputable def notE (f:EF):EF:=fun η=>(tT f η).map fun b=>.bool (!b)
noncomputable def negE (f:EF):EF:=fun η=>(f η).bind fun x=>match x with | .int i=>some (.int (-i)) | _=>none
noncomputable def booE (f:List Slot→Option Bool):EF:=fun η=>(f η).map .bool
noncomputable def bnd (f:EF)(o:V→Option V):EF:=fun η=>(f η).bind o
noncomputable def bndL (f:List Slot→Option (List V))(o:List V→Option V):EF:=fun η=>(f η).bind o
noncomputable def kF0:List Slot→Option (List Nat):=fun _=>some []
noncomputable def kA0:List Slot→Option (List V):=fun _=>some []
noncomputable def kL0:List Slot→Option (List El):=fun _=>some []
noncomputable def bV (f:EF):List Slot→Option El:=fun η=>(f η).map .val
noncomputable def bO (f:List Slot→Option (List V)):List Slot→Option El:=fun η=>(f η).map .own
noncomputable def kT (b:Bool):List Slot→Option Bool:=fun _=>some b
noncomputable def nilS:SF:=fun η=>some (.next,η)
noncomputable def brkS:SF:=fun η=>some (.brk,η)
noncomputable def retS (f:EF):SF:=fun η=>(f η).bind fun v=>some (.ret v,η)
noncomputable def zBh (f:List Slot→Option Bool):SF:=fun η=>(f η).bind fun b=>if b=true then some (.next,η) else none
noncomputable def forS (fi:List Slot→Option (List V))(tg:V→List Slot→Option (List Slot))(F:SF):SF:=fun η=>(fi η).bind fun xs=>forL tg F xs η
noncomputable def seqI (f:EF):List Slot→Option (List V):=fun η=>(f η).bind zGj
noncomputable def cmpS (own:Bool)(i:Nat)(c:List Slot→Option (List V)):SF:=fun η=>(c η).bind fun ys=>some (.next,setS η i (if own=true then .own ys else .val (.lst ys)))
noncomputable def unpS (f:EF)(tg:V→List Slot→Option (List Slot)):SF:=fun η=>(f η).bind fun v=>(tg v η).map fun η'=>(.next,η')
noncomputable abbrev neV (x y:V):Option Bool:=(eqV x y).map not
noncomputable abbrev ninV (x y:V):Option Bool:=(inV x y).map not
noncomputable abbrev gtV (x y:V):Option Bool:=ltV y x
noncomputable abbrev geV (x y:V):Option Bool:=leV y x
noncomputable abbrev zDv (x y:V):Option Bool:=(isV x y).map not
section
variable {g:GC} {j:Nat} {fs fsC:FS}
theorem zQA {x:Str}{i:Nat}{pos}(hv:fs.vm x=some i)(hd:(x==("__debug__":Str))=false):SimE g j fs (.Name x pos) (nmE i):=SimE.name hv hd
theorem zQF {x:Str}{i:Nat}{pos}(hv:fs.vm x=some i)(hd:(x==("__debug__":Str))=false):SimC g j fs (.Name x pos) (nmC i):=SimC.name hv hd
theorem zQC {i:Int}{k pos}:SimE g j fs (.Constant (.int i) k pos) (kI i):=zPh
theorem zQD {b:Bool}{k pos}:SimE g j fs (.Constant (.bool b) k pos) (kB b):=zPd
theorem zQB {k pos}:SimE g j fs (.Constant .none k pos) kN:=zPc
theorem SimO.no:SimO g j fs Option.none kN:=SimO.none
theorem SimA.ni {pos}:SimA g j fs pos [] kA0:=SimA.nil
theorem zQH {pos}:SimB g j fs pos [] kL0:=SimB.nil
theorem SimF.ni:SimF g j fs [] kF0:=SimF.nil
theorem SimTs.niAnd:SimTs g j fs .And [] (kT true):=SimTs.nilAnd
theorem SimTs.niOr:SimTs g j fs .Or [] (kT false):=SimTs.nilOr
theorem zAT.ni:zAT g j fs [] (kT true):=zAT.nil
theorem zQy:SimS g j fs [] nilS:=SimS.nil
theorem zP1 {es k pos f}(h:SimA g j fs pos es f):SimE g j fs (.Tuple es k pos) (tupE f):=SimE.tup h
theorem SimE.list {es pos f}(h:SimA g j fs pos es f):SimE g j fs (.List es pos) (lstE f):=SimE.lst h
theorem SimN.list {es pos f}(h:SimA g j fs pos es f):SimN g j fs (.List es pos) (lstN f):=SimN.lst h
theorem zQz {e f}(h:SimN g j fs e f):SimE g j fs e (valN f):=SimN.e h
theorem zQx {e:Expr}{pos f}(h:SimT g j fs e f):SimT g j fs (.UnaryOp .Not e pos) (notT f):=zQf h
theorem SimE.ne {e:Expr}{pos f}(h:SimC g j fs e f):SimE g j fs (.UnaryOp .USub e pos) (negE f):=zQi h
theorem zP6 {l r:Expr}{op pos f h o}(hl:SimC g j fs l f)(hr:SimC g j fs r h)(ho:Cmp2 g j op o)(hb:behindInMarks op r=false):SimE g j fs (.Compare l [op] [r] pos) (booE (t2 f h o)):=zQk hl hr ho hb
theorem zP8 {x:Str}{np pos e f o}{fv:Value}(hG:GOk g)(hk:zAj fs.scope x=some .globalImplicit)(hv:g.mg x=none∧g.mb x=some fv)(hf:∀ a,fv≠.ref a)(he:SimC g j fs e f)
  (ho:Op1 g j (fun a=>call fv [a]) o) (hn:notStar e=true) (hd:(x==("__debug__":Str))=false):SimE g j fs (.Call (.Name x np) [e] [] pos) (bnd f o):=zPR hG hk hv hf he ho hn hd
theorem zP4 {e np tp pos f o}{T:Str}{Tv:String}(hG:GOk g)(hb:g.mg "isinstance"=none∧g.mb "isinstance"=some (.builtin "isinstance"))(hk:zAj fs.scope "isinstance"=some .globalImplicit)(hT:g.mg T=none∧g.mb T=some (.type Tv))(hkT:zAj fs.scope T=some .globalImplicit)(he:SimC g j fs e f)(ho:Op1 g j (fun a=>call (.builtin "isinstance") [a,.type Tv]) o)
  (hn:notStar e=true) (hd:(T==("__debug__":Str))=false):SimE g j fs (.Call (.Name "isinstance" np) [e,.Name T tp] [] pos) (bnd f o):=zPy hG hb hk hT hkT he ho hn hd
theorem zP7 {name:Str}{np pos}{e:Expr}{rest:List Expr}{f:List Slot→Option (List V)}{F:List V→Option V}(hG:GOk g)(hk:zAj fs.scope name=some .globalImplicit)(hF:FnOk g j name F)
  (ha:SimA g j fs pos (e::rest) f) (hn:notStar e=true) (hns:∀ env,(backTo pos (starEach rest env)).any (·.1)=false) (hd:(name==("__debug__":Str))=false):
  SimE g j fs (.Call (.Name name np) (e::rest) [] pos) (bndL f F):=zPQ hG hk hF ha hn hns hd
theorem zQE {e pos f}(he:SimE g j fs e f):SimE g j fs (.FormattedValue e (-1) none pos) (fmtE f):=zQj he
theorem zQI {e:Expr}{pos f}(he:SimE g j fs e f):Sim1 g j fs (.Return (some e) pos) (retS f):=Sim1.ret he
theorem zQK {pos}:Sim1 g j fs (.Break pos) brkS:=Sim1.brk
theorem zQb {t:Expr}{pos f}(ht:SimT g j fs t f):Sim1 g j fs (.Assert t none pos) (zBh f):=zPC ht
theorem zQJ {iter target:Expr}{body:List Stmt}{pos fi tg F}(hs:Src g j fs iter fi)(ht:SimTg g j fs target tg)(hb:SimS g j fs body F)(hf:∀ env x,foldedSetIterable iter env x=pure x):
  Sim1 g j fs (.For target iter body [] pos) (forS fi tg F):=zQo hs ht hb hf
theorem Src.sq {iter:Expr}{f}(he:SimE g j fs iter f):Src g j fs iter (seqI f):=Src.seq he
theorem zPU {ts:List Expr}{c p e pos f tg}(he:SimE g j fs e f)(ht:SimTg g j fs (.Tuple ts c p) tg)(hsw:∀ env,swappedStores [.Tuple ts c p] e env=pure none)
  (hs:∀ env,swapsWithSole [.Tuple ts c p] e pos.line env=pure false):Sim1 g j fs (.Assign [.Tuple ts c p] e pos) (unpS f tg):=zPz he ht hsw hs
theorem zQG {pos e es f h}(he:SimE g j fs e f)(hr:SimB g j fs pos es h)(hn:notStar e=true):SimB g j fs pos (e::es) (bCons (bV f) h):=SimB.val he hr hn
theorem SimB.ow {pos e es f h}(he:SimN g j fs e f)(hr:SimB g j fs pos es h)(hn:notStar e=true):SimB g j fs pos (e::es) (bCons (bO f) h):=SimB.own he hr hn
theorem zP2 {o:Expr}{ap pos k1 k2 p1 p2}{x y:Str}{c:Nat}{z:List Nat}{f}(ho:SimC g j fs o f)(hx:x=⟨#[c]⟩)(hy:y.cps.toList=z)(hc:(z.all fun c=>decide (c<1114112))=true)(hz:z.length≤10)(hne:(⟨#[c]⟩==y)=false)
  (hb:∀ env,attributeBase o "replace" env (eval o env)=eval o env) (hline:(ap.endLine==pos.line)=true):
  SimE g j fs (.Call (.Attribute o "replace" ap) [.Constant (.str x) k1 p1,.Constant (.str y) k2 p2] [] pos) (bnd f (replV c z)):=SimE.replace ho hx hy hc hz hne hb hline
theorem SimE.trans {o:Expr}{m:Str}{ap np pos:Pos}{f S}(hG:GOk g)(hT:zDm g m S)(hk:zAj fs.scope m=some .globalImplicit)(ho:SimC g j fs o f)
  (hb:∀ env,attributeBase o "translate" env (eval o env)=eval o env) (hline:(ap.endLine==pos.line)=true) (hd:(m==("__debug__":Str))=false):
  SimE g j fs (.Call (.Attribute o "translate" ap) [.Name m np] [] pos) (bnd f (zED S)):=SimE.translate hG hT hk ho hb hline hd
end
theorem zP3 {g:GC}{j:Nat}{fs:FS}{x:Str}{l:List Nat}{k pos}(hl:x.cps.toList=l)(hc:(l.all fun c=>decide (c<1114112))=true)(hz:l.length≤10000):SimE g j fs (.Constant (.str x) k pos) (kS l):=
 zPg hl hc hz
theorem SimS.none {g:GC}{j fs ss}:SimS g j fs ss (fun _x=>none):=by
 intro A ids Wo env gh η kp s x η' hA hE hR hx;cases hx
theorem zJW:∀ x y z q r,zGo x y z q=some r→∃ l,x=.str l:=by
 intro x y z q r h;refine ze42 (zGn h) fun l _ _ _ e _=>?_;exact⟨l,e⟩
theorem zJX:∀ x y z r,zGq x y z=some r→∃ l,x=.str l:=by
 intro x y z r h;refine ze32 (zGp h) fun l _ _ e _=>?_;exact⟨l,e⟩
theorem zHO:∀ x y r,joinV x y=some r→∃ l,x=.str l:=by
 intro x y r h;refine zbd h fun l hx _=>?_;exact⟨l,zAv hx⟩
noncomputable def mkFS (sc:Scope)(l:List (Str×Nat))(code:Option (Addr×Str)):FS:={scope:=sc,vm:=fun x=>l.lookup x,code:=code}
theorem lookup_mem {α β:Type}[BEq α][LawfulBEq α]{x:α}{i:β}{l:List (α×β)}(h:l.lookup x=some i):(x,i)∈l:=by
 induction l with
 | nil=>exact noneE h
 | cons p l ih=>
  obtain⟨y,k⟩:=p;rw[List.lookup_cons] at h;cases e:(x==y) with
  | true=>
   rw[e] at h;rw[beq_iff_eq.mp e,Option.some.inj h];exact zzlms
  | false=>
   rw[e] at h;exact zzlmc _ (ih h)
theorem zGL {α:Type}{x y:α}{i:Nat}:∀ {l:List (α×Nat)},(l.map (·.2)).Nodup→(x,i)∈l→(y,i)∈l→x=y
 | (z,k)::l,hn,hx,hy=>by
  refine ze02 (List.nodup_cons.mp hn) fun h1 h2=>?_;rcases List.mem_cons.mp hx with ex | ex
  ·rcases List.mem_cons.mp hy with ey | ey
   ·exact(Prod.mk.inj ex).1.trans (Prod.mk.inj ey).1.symm
   ·exact absurd ((Prod.mk.inj ex).2▸List.mem_map_of_mem (f:=(·.2)) ey) h1
  ·rcases List.mem_cons.mp hy with ey | ey
   ·exact absurd ((Prod.mk.inj ey).2▸List.mem_map_of_mem (f:=(·.2)) ex) h1
   ·exact zGL h2 ex ey
noncomputable def kindB (k:Option NameKind)(k':NameKind):Bool:=k==some k'
theorem zBD {k:Option NameKind}{k'}(h:kindB k k'=true):k=some k':=by
 exact beq_iff_eq.mp h
noncomputable def fsOkB (sc:Scope)(l:List (Str×Nat))(ps:List Str)(n:Nat):Bool:=
 (sc.kind==.function)&&!sc.isCoroutine&&!sc.isGenerator&&decide ps.Nodup&&(ps.all fun x=>kindB (sc.names.lookup x) .local||kindB (sc.names.lookup x) .cell) &&
 (l.all fun p=>decide (p.2<n)&&(kindB (sc.names.lookup p.1) .local||(kindB (sc.names.lookup p.1) .cell&&!(p.1==("__classdict__":Str))))&&(!decide (p.2<ps.length)||ps[p.2]?==some p.1))&&decide (l.map (·.2)).Nodup
theorem zAV {sc:Scope}{l:List (Str×Nat)}{ps:List Str}{n:Nat}{code}(h:fsOkB sc l ps n=true):FsOk (mkFS sc l code) ps n:=by
 unfold fsOkB at h;simp only[Bool.and_eq_true,List.all_eq_true,Bool.or_eq_true,decide_eq_true_eq,beq_iff_eq,Bool.not_eq_true'] at h;refine ze02 h fun z3 h7=>?_;clear h;refine ze02 z3 fun z4 h6=>?_;clear z3;refine ze02 z4 fun z5 h5=>?_;clear z4;refine ze02 z5 fun z6 h4=>?_;clear z5;refine ze02 z6 fun z0 h3=>?_;clear z6;refine ze02 z0 fun h1 h2=>?_;clear z0;refine⟨h1,h2,h3,h4,fun x hx=>(h5 x hx).imp zBD zBD,fun x i hx=>?_,fun x y i hx hy=>zGL h7 (lookup_mem hx) (lookup_mem hy)⟩;refine ze02 (h6 (x,i) (lookup_mem hx)) fun z1 q3=>?_;refine ze02 z1 fun q1 q2=>?_;clear z1;refine⟨q1,q2.imp zBD fun q=>⟨zBD q.1,q.2⟩,fun hi=>?_⟩;rcases q3 with q3 | q3
 ·exact absurd hi (of_decide_eq_false q3)
 ·exact q3
noncomputable def zKm (osc:Scope)(lo:List (Str×Nat))(sc:Scope)(l:List (Str×Nat))(L:List Nat):Bool:=
 (sc.kind==.function)&&(sc.names.all fun y=>!(y.2==.cell))&&(sc.names.all fun y=>!(y.2==.local)||kindB (sc.names.lookup y.1) .local) &&
 (sc.names.all fun y=>!(y.2==.free)||((lo.lookup y.1).isSome&&!kindB (osc.names.lookup y.1) .local)) &&
 (l.all fun p=>(kindB (sc.names.lookup p.1) .local&&L.contains p.2)||(kindB (sc.names.lookup p.1) .free&&(lo.lookup p.1==some p.2)&&!kindB (osc.names.lookup p.1) .local))&&decide (l.map (·.2)).Nodup
theorem zAu {osc:Scope}{lo:List (Str×Nat)}{code}{sc:Scope}{l:List (Str×Nat)}{L:List Nat}(h:zKm osc lo sc l L=true):zBU (mkFS osc lo code) (mkFS (zHD sc osc) l none) sc L:=by
 unfold zKm at h;simp only[Bool.and_eq_true,List.all_eq_true,Bool.or_eq_true,decide_eq_true_eq,beq_iff_eq,Bool.not_eq_true',beq_eq_false_iff_ne,List.contains_iff_mem] at h;refine ze02 h fun z2 h6=>?_;clear h;refine ze02 z2 fun z3 h5=>?_;clear z2;refine ze02 z3 fun z4 h4=>?_;clear z3;refine ze02 z4 fun z5 h3=>?_;clear z4;refine ze02 z5 fun h1 h2=>?_;clear z5;have nk:∀ {k:Option NameKind},kindB k .local=false→k≠some .local:=fun e q=>by rw[q] at e;cases e
 refine⟨h1,rfl,rfl,fun y hy=>h2 y hy,fun y hy e=>?_,fun y hy e=>?_,fun x i hx=>?_,fun x y i hx hy=>zGL h6 (lookup_mem hx) (lookup_mem hy)⟩
 ·rcases h3 y hy with q | q
  ·exact absurd e q
  ·exact zBD q
 ·rcases h4 y hy with q | ⟨q1,q2⟩
  ·exact absurd e q
  ·refine ze11 (Option.isSome_iff_exists.mp q1) fun i hi=>?_;exact⟨i,hi,nk q2⟩
 ·rcases h5 (x,i) (lookup_mem hx) with ⟨q1,q2⟩ | ⟨⟨q1,q2⟩,q3⟩
  ·exact .inl ⟨zBD q1,q2⟩
  ·exact .inr ⟨zBD q1,q2,nk q3⟩
theorem zB7 {i:Nat}{L:List Nat}(h:i∈L):∀ (η:List Slot) (x:V) (η1:List Slot),(∀ i∈L,η[i]? = some Slot.undef)→tgN i x η=some η1→Weak η1 η:=by
 intro η x η1 hL hx;cases hx;exact(Weak.refl η).set (hL i h)
theorem zNJ {η:List Slot}{is:List Nat}{xs:List V}{η0 η1:List Slot}(hL:∀ i∈is,η[i]? = some Slot.undef)(h:Weak η0 η)(e:tgL is xs η0=some η1):Weak η1 η:=by
 induction is generalizing xs η0 with
 | nil=>cases xs with
  | nil=>rw[←Option.some.inj e];exact h
  | cons _ _=>exact noneE e
 | cons i is ih=>cases xs with
  | nil=>exact noneE e
  | cons x xs=>exact ih (fun k hk=>hL k (zzlmc _ hk)) (h.set (hL i zzlms)) e
theorem zF0 {is L:List Nat}(h:(is.all fun i=>L.contains i)=true):∀ (η:List Slot) (x:V) (η1:List Slot),(∀ i∈L,η[i]? = some Slot.undef)→tgT is x η=some η1→Weak η1 η:=by
 intro η x η1 hL hx;refine zbd hx fun xs _ hx=>?_;exact zNJ (fun i hi=>hL i (by simpa using List.all_eq_true.mp h i hi)) (Weak.refl η) hx
end Mine.Internal
end
noncomputable section
open PySem PySem.W PySem.Calls PyProof.Rows PySem.Builtin.Re
namespace Mine.Internal
structure WE (g:GC)(j:Nat)(fs:FS)(e:Expr)(f:List Slot→Option V):Prop where
 out:SimE g j fs e f
structure WC (g:GC)(j:Nat)(fs:FS)(e:Expr)(f:List Slot→Option V):Prop where
 out:SimC g j fs e f
structure WT (g:GC)(j:Nat)(fs:FS)(e:Expr)(f:List Slot→Option Bool):Prop where
 out:SimT g j fs e f
structure WTs (g:GC)(j:Nat)(fs:FS)(op:BoolOp)(e:List Expr)(f:List Slot→Option Bool):Prop where
 out:SimTs g j fs op e f
structure WA (g:GC)(j:Nat)(fs:FS)(p:Pos)(e:List Expr)(f:List Slot→Option (List V)):Prop where
 out:SimA g j fs p e f
structure WB (g:GC)(j:Nat)(fs:FS)(p:Pos)(e:List Expr)(f:List Slot→Option (List El)):Prop where
 out:SimB g j fs p e f
structure WN (g:GC)(j:Nat)(fs:FS)(e:Expr)(f:List Slot→Option (List V)):Prop where
 out:SimN g j fs e f
structure WF (g:GC)(j:Nat)(fs:FS)(e:List Expr)(f:List Slot→Option (List Nat)):Prop where
 out:SimF g j fs e f
structure WO (g:GC)(j:Nat)(fs:FS)(e:Option Expr)(f:List Slot→Option V):Prop where
 out:SimO g j fs e f
structure WEs (g:GC)(j:Nat)(fs:FS)(op:BoolOp)(p:Pos)(e:List Expr)(f:List Slot→Option V):Prop where
 out:SimEs g j fs op p e f
structure W1 (g:GC)(j:Nat)(fs:FS)(e:Stmt)(f:List Slot→Option (Out×List Slot)):Prop where
 out:Sim1 g j fs e f
structure WS (g:GC)(j:Nat)(fs:FS)(e:List Stmt)(f:List Slot→Option (Out×List Slot)):Prop where
 out:SimS g j fs e f
structure WSrc (g:GC)(j:Nat)(fs:FS)(e:Expr)(f:List Slot→Option (List V)):Prop where
 out:Src g j fs e f
structure WIfs (g:GC)(j:Nat)(fs:FS)(e:List Expr)(f:List Slot→Option Bool):Prop where
 out:zAT g j fs e f
structure WTg (g:GC)(j:Nat)(fs:FS)(e:Expr)(f:V→List Slot→Option (List Slot)):Prop where
 out:SimTg g j fs e f
structure WTgL (g:GC)(j:Nat)(fs:FS)(e:Expr)(f:V→List Slot→Option (List Slot)):Prop where
 out:zBi g j fs e f
theorem zQt {g:GC}{j:Nat}{fs:FS}{x:Str}{l:List Nat}{k pos}(hl:x.cps.toList=l)(hc:(l.all fun c=>decide (c<1114112))=true)(hz:l.length≤10000):WE g j fs (.Constant (.str x) k pos) (kS l):=
 ⟨zP3 (hl:=hl) (hc:=hc) (hz:=hz)⟩
theorem zks {g:GC}{j:Nat}{fs:FS}{x:Str}{l:List Nat}{k pos}(hl:x.cps.toList=l)(h:(l.all (fun c=>decide (c<1114112))&&decide (l.length≤10000))=true):WE g j fs (.Constant (.str x) k pos) (kS l):=zQt hl (Bool.and_eq_true_iff.mp h).1 (of_decide_eq_true (Bool.and_eq_true_iff.mp h).2)
theorem zOH {g:GC}{j:Nat}{fs:FS}{x:Str}{i:Nat}{pos}(hv:fs.vm x=some i)(hd:(x==("__debug__":Str))=false):WE g j fs (.Name x pos) (nmE i):=
 ⟨zQA (hv:=hv) (hd:=hd)⟩
theorem zOB {g:GC}{j:Nat}{fs:FS}{x:Str}{i:Nat}{pos}(hv:fs.vm x=some i)(hd:(x==("__debug__":Str))=false):WC g j fs (.Name x pos) (nmC i):=
 ⟨zQF (hv:=hv) (hd:=hd)⟩
theorem zOE {g:GC}{j:Nat}{fs:FS}{i:Int}{k pos}:WE g j fs (.Constant (.int i) k pos) (kI i):=
 ⟨zQC ⟩
theorem zO7 {g:GC}{j:Nat}{fs:FS}{b:Bool}{k pos}:WE g j fs (.Constant (.bool b) k pos) (kB b):=
 ⟨zQD ⟩
theorem zPX {g:GC}{j:Nat}{fs:FS}{k pos}:WE g j fs (.Constant .none k pos) kN:=
 ⟨zQB ⟩
theorem zPe {g:GC}{j:Nat}{fs:FS}:WO g j fs Option.none kN:=
 ⟨SimO.no ⟩
theorem zOI {g:GC}{j:Nat}{fs:FS}{pos}:WA g j fs pos [] kA0:=
 ⟨SimA.ni ⟩
theorem zPf {g:GC}{j:Nat}{fs:FS}{pos}:WB g j fs pos [] kL0:=
 ⟨zQH ⟩
theorem WF.ni {g:GC}{j:Nat}{fs:FS}:WF g j fs [] kF0:=
 ⟨SimF.ni ⟩
theorem zOP {g:GC}{j:Nat}{fs:FS}:WTs g j fs .And [] (kT true):=
 ⟨SimTs.niAnd ⟩
theorem zO3 {g:GC}{j:Nat}{fs:FS}:WTs g j fs .Or [] (kT false):=
 ⟨SimTs.niOr ⟩
theorem zOY {g:GC}{j:Nat}{fs:FS}:WIfs g j fs [] (kT true):=
 ⟨zAT.ni ⟩
theorem zOF {g:GC}{j:Nat}{fs:FS}:WS g j fs [] nilS:=
 ⟨zQy ⟩
theorem zOK {g:GC}{j:Nat}{fs:FS}{es k pos f}(h:WA g j fs pos es f):WE g j fs (.Tuple es k pos) (tupE f):=
 ⟨zP1 (h:=h.out)⟩
theorem WE.list {g:GC}{j:Nat}{fs:FS}{es pos f}(h:WA g j fs pos es f):WE g j fs (.List es pos) (lstE f):=
 ⟨SimE.list (h:=h.out)⟩
theorem WN.list {g:GC}{j:Nat}{fs:FS}{es pos f}(h:WA g j fs pos es f):WN g j fs (.List es pos) (lstN f):=
 ⟨SimN.list (h:=h.out)⟩
theorem zPb {g:GC}{j:Nat}{fs:FS}{e f}(h:WN g j fs e f):WE g j fs e (valN f):=
 ⟨zQz (h:=h.out)⟩
theorem zQr {g:GC}{j:Nat}{fs:FS}{e:Expr}{pos f}(h:WT g j fs e f):WT g j fs (.UnaryOp .Not e pos) (notT f):=
 ⟨zQx (h:=h.out)⟩
theorem WE.ne {g:GC}{j:Nat}{fs:FS}{e:Expr}{pos f}(h:WC g j fs e f):WE g j fs (.UnaryOp .USub e pos) (negE f):=
 ⟨SimE.ne (h:=h.out)⟩
theorem zO9 {g:GC}{j:Nat}{fs:FS}{l r:Expr}{op pos f h o}(hl:WC g j fs l f)(hr:WC g j fs r h)(ho:Cmp2 g j op o)(hb:behindInMarks op r=false):WE g j fs (.Compare l [op] [r] pos) (booE (t2 f h o)):=
 ⟨zP6 (hl:=hl.out) (hr:=hr.out) (ho:=ho) (hb:=hb)⟩
theorem zOO {g:GC}{j:Nat}{fs:FS}{x:Str}{np pos e f o}{fv:Value}(hG:GOk g)(hk:zAj fs.scope x=some .globalImplicit)(hv:g.mg x=none∧g.mb x=some fv)(hf:∀ a,fv≠.ref a)(he:WC g j fs e f)(ho:Op1 g j (fun a=>call fv [a]) o)(hn:notStar e=true)(hd:(x==("__debug__":Str))=false):WE g j fs (.Call (.Name x np) [e] [] pos) (bnd f o):=
 ⟨zP8 (hG:=hG) (hk:=hk) (hv:=hv) (hf:=hf) (he:=he.out) (ho:=ho) (hn:=hn) (hd:=hd)⟩
theorem zQu {g:GC}{j:Nat}{fs:FS}{e np tp pos f o}{T:Str}{Tv:String}(hG:GOk g)(hb:g.mg "isinstance"=none∧g.mb "isinstance"=some (.builtin "isinstance"))(hk:zAj fs.scope "isinstance"=some .globalImplicit)(hT:g.mg T=none∧g.mb T=some (.type Tv))(hkT:zAj fs.scope T=some .globalImplicit)(he:WC g j fs e f)(ho:Op1 g j (fun a=>call (.builtin "isinstance") [a,.type Tv]) o)(hn:notStar e=true)(hd:(T==("__debug__":Str))=false):WE g j fs (.Call (.Name "isinstance" np) [e,.Name T tp] [] pos) (bnd f o):=
 ⟨zP4 (hG:=hG) (hb:=hb) (hk:=hk) (hT:=hT) (hkT:=hkT) (he:=he.out) (ho:=ho) (hn:=hn) (hd:=hd)⟩
theorem zOR {g:GC}{j:Nat}{fs:FS}{name:Str}{np pos}{e:Expr}{rest:List Expr}{f:List Slot→Option (List V)}{F:List V→Option V}(hG:GOk g)(hk:zAj fs.scope name=some .globalImplicit)(hF:FnOk g j name F)(ha:WA g j fs pos (e::rest) f)(hn:notStar e=true)(hns:∀ env,(backTo pos (starEach rest env)).any (·.1)=false)(hd:(name==("__debug__":Str))=false):WE g j fs (.Call (.Name name np) (e::rest) [] pos) (bndL f F):=
 ⟨zP7 (hG:=hG) (hk:=hk) (hF:=hF) (ha:=ha.out) (hn:=hn) (hns:=hns) (hd:=hd)⟩
theorem zQv {g:GC}{j:Nat}{fs:FS}{e pos f}(he:WE g j fs e f):WE g j fs (.FormattedValue e (-1) none pos) (fmtE f):=
 ⟨zQE (he:=he.out)⟩
theorem zO1 {g:GC}{j:Nat}{fs:FS}{e:Expr}{pos f}(he:WE g j fs e f):W1 g j fs (.Return (some e) pos) (retS f):=
 ⟨zQI (he:=he.out)⟩
theorem W1.br {g:GC}{j:Nat}{fs:FS}{pos}:W1 g j fs (.Break pos) brkS:=
 ⟨zQK ⟩
theorem zPl {g:GC}{j:Nat}{fs:FS}{t:Expr}{pos f}(ht:WT g j fs t f):W1 g j fs (.Assert t none pos) (zBh f):=
 ⟨zQb (ht:=ht.out)⟩
theorem zPZ {g:GC}{j:Nat}{fs:FS}{iter target:Expr}{body:List Stmt}{pos fi tg F}(hs:WSrc g j fs iter fi)(ht:WTg g j fs target tg)(hb:WS g j fs body F)(hf:∀ env x,foldedSetIterable iter env x=pure x):W1 g j fs (.For target iter body [] pos) (forS fi tg F):=
 ⟨zQJ (hs:=hs.out) (ht:=ht.out) (hb:=hb.out) (hf:=hf)⟩
theorem zOV {g:GC}{j:Nat}{fs:FS}{iter:Expr}{f}(he:WE g j fs iter f):WSrc g j fs iter (seqI f):=
 ⟨Src.sq (he:=he.out)⟩
theorem zO8 {g:GC}{j:Nat}{fs:FS}{ts:List Expr}{c p e pos f tg}(he:WE g j fs e f)(ht:WTg g j fs (.Tuple ts c p) tg)(hsw:∀ env,swappedStores [.Tuple ts c p] e env=pure none)(hs:∀ env,swapsWithSole [.Tuple ts c p] e pos.line env=pure false):W1 g j fs (.Assign [.Tuple ts c p] e pos) (unpS f tg):=
 ⟨zPU (he:=he.out) (ht:=ht.out) (hsw:=hsw) (hs:=hs)⟩
theorem zO0 {g:GC}{j:Nat}{fs:FS}{pos e es f h}(he:WE g j fs e f)(hr:WB g j fs pos es h)(hn:notStar e=true):WB g j fs pos (e::es) (bCons (bV f) h):=
 ⟨zQG (he:=he.out) (hr:=hr.out) (hn:=hn)⟩
theorem WB.ow {g:GC}{j:Nat}{fs:FS}{pos e es f h}(he:WN g j fs e f)(hr:WB g j fs pos es h)(hn:notStar e=true):WB g j fs pos (e::es) (bCons (bO f) h):=
 ⟨SimB.ow (he:=he.out) (hr:=hr.out) (hn:=hn)⟩
theorem zQs {g:GC}{j:Nat}{fs:FS}{o:Expr}{ap pos k1 k2 p1 p2}{x y:Str}{c:Nat}{z:List Nat}{f}(ho:WC g j fs o f)(hx:x=⟨#[c]⟩)(hy:y.cps.toList=z)(hc:(z.all fun c=>decide (c<1114112))=true)(hz:z.length≤10)(hne:(⟨#[c]⟩==y)=false)(hb:∀ env,attributeBase o "replace" env (eval o env)=eval o env)(hline:(ap.endLine==pos.line)=true):WE g j fs (.Call (.Attribute o "replace" ap) [.Constant (.str x) k1 p1,.Constant (.str y) k2 p2] [] pos) (bnd f (replV c z)):=
 ⟨zP2 (ho:=ho.out) (hx:=hx) (hy:=hy) (hc:=hc) (hz:=hz) (hne:=hne) (hb:=hb) (hline:=hline)⟩
theorem WE.trans {g:GC}{j:Nat}{fs:FS}{o:Expr}{m:Str}{ap np pos:Pos}{f S}(hG:GOk g)(hT:zDm g m S)(hk:zAj fs.scope m=some .globalImplicit)(ho:WC g j fs o f)(hb:∀ env,attributeBase o "translate" env (eval o env)=eval o env)(hline:(ap.endLine==pos.line)=true)(hd:(m==("__debug__":Str))=false):WE g j fs (.Call (.Attribute o "translate" ap) [.Name m np] [] pos) (bnd f (zED S)):=
 ⟨SimE.trans (hG:=hG) (hT:=hT) (hk:=hk) (ho:=ho.out) (hb:=hb) (hline:=hline) (hd:=hd)⟩
theorem WS.none {g:GC}{j fs ss}:WS g j fs ss (fun _x=>none):=
 ⟨SimS.none ⟩
theorem zOC {g j fs e f}(h:WE g j fs e f):WC g j fs e f:=
 ⟨SimE.c (h:=h.out)⟩
theorem zOG {g:GC}{j:Nat}{fs:FS}{l r:Expr}{op pos f h o}(hl:WC g j fs l f)(hr:WC g j fs r h)(ho:Op2 g j (binaryOp op) o):WE g j fs (.BinOp l op r pos) (b2 f h o):=
 ⟨zQl (hl:=hl.out) (hr:=hr.out) (ho:=ho)⟩
theorem zOD {g:GC}{j:Nat}{fs:FS}{l r:Expr}{op pos f h o}(hl:WC g j fs l f)(hr:WC g j fs r h)(ho:Cmp2 g j op o)(hb:behindInMarks op r=false):WT g j fs (.Compare l [op] [r] pos) (t2 f h o):=
 ⟨zQg (hl:=hl.out) (hr:=hr.out) (ho:=ho) (hb:=hb)⟩
theorem zON {g:GC}{j:Nat}{fs:FS}{e es f h}(he:WT g j fs e f)(hr:WTs g j fs .And es h):WTs g j fs .And (e::es) (tAnd f h):=
 ⟨SimTs.and (he:=he.out) (hr:=hr.out)⟩
theorem zOX {g:GC}{j:Nat}{fs:FS}{e es f h}(he:WT g j fs e f)(hr:WTs g j fs .Or es h):WTs g j fs .Or (e::es) (tOr f h):=
 ⟨SimTs.or (he:=he.out) (hr:=hr.out)⟩
theorem zOZ {g:GC}{j:Nat}{fs:FS}{es pos f}(h:WTs g j fs .And es f):WT g j fs (.BoolOp .And es pos) f:=
 ⟨zQh (h:=h.out)⟩
theorem zPG {g:GC}{j:Nat}{fs:FS}{es pos f}(h:WTs g j fs .Or es f):WT g j fs (.BoolOp .Or es pos) f:=
 ⟨zQw (h:=h.out)⟩
theorem zOQ {g:GC}{j:Nat}{fs:FS}{t a b:Expr}{pos ft fa fb}(ht:WT g j fs t ft)(ha:WE g j fs a fa)(hb:WE g j fs b fb):WE g j fs (.IfExp t a b pos) (ite3 ft fa fb):=
 ⟨zPP (ht:=ht.out) (ha:=ha.out) (hb:=hb.out)⟩
theorem WT.val {g:GC}{j:Nat}{fs:FS}{e:Expr}{f}(h:WC g j fs e f)(hs:∀ env whole,isTrue e env whole=(do let v ←whole;standAt e.pos;holding [v] (truthy v))):WT g j fs e (tT f):=
 ⟨SimT.val (h:=h.out) (hs:=hs)⟩
theorem zQc {g:GC}{j:Nat}{fs:FS}{l r q:Expr}{op op2 pos f h k o p}(hl:WC g j fs l f)(hr:WC g j fs r h)(hq:WC g j fs q k)(ho:Cmp2 g j op o)(hp:Cmp2 g j op2 p)(hb:lastMarks [op,op2] [r,q]=false):WT g j fs (.Compare l [op,op2] [r,q] pos) (zEF f h k o p):=
 ⟨zPL (hl:=hl.out) (hr:=hr.out) (hq:=hq.out) (ho:=ho) (hp:=hp) (hb:=hb)⟩
theorem WEs.one {g:GC}{j:Nat}{fs:FS}{op pos e f}(h:WE g j fs e f):WEs g j fs op pos [e] f:=
 ⟨SimEs.one (h:=h.out)⟩
theorem WEs.and {g:GC}{j:Nat}{fs:FS}{pos e e2 es f h}(he:WE g j fs e f)(hr:WEs g j fs .And pos (e2::es) h):WEs g j fs .And pos (e::e2::es) (bAnd f h):=
 ⟨SimEs.and (he:=he.out) (hr:=hr.out)⟩
theorem zQe {g:GC}{j:Nat}{fs:FS}{op es pos f}(h:WEs g j fs op pos es f):WE g j fs (.BoolOp op es pos) f:=
 ⟨zPS (h:=h.out)⟩
theorem WE.sub {g:GC}{j:Nat}{fs:FS}{v i:Expr}{pos f h}(hv:WC g j fs v f)(hi:WC g j fs i h)(hs:∀ o i',subscripted i false o i'=operate [o,i'] (getItem o i')):WE g j fs (.Subscript v i pos) (b2 f h idxV):=
 ⟨SimE.sub (hv:=hv.out) (hi:=hi.out) (hs:=hs)⟩
theorem zOJ {g:GC}{j:Nat}{fs:FS}{v:Expr}{lo hi:Option Expr}{p pos f h k}(hv:WC g j fs v f)(hl:WO g j fs lo h)(hh:WO g j fs hi k):WE g j fs (.Subscript v (.Slice lo hi none p) pos) (s3 f h k):=
 ⟨zPN (hv:=hv.out) (hl:=hl.out) (hh:=hh.out)⟩
theorem WO.some {g:GC}{j:Nat}{fs:FS}{e f}(h:WE g j fs e f):WO g j fs (some e) f:=
 ⟨SimO.some (h:=h.out)⟩
theorem WA.cons {g:GC}{j:Nat}{fs:FS}{pos e es f h}(he:WE g j fs e f)(hr:WA g j fs pos es h)(hn:notStar e=true):WA g j fs pos (e::es) (aCons f h):=
 ⟨SimA.cons (he:=he.out) (hr:=hr.out) (hn:=hn)⟩
theorem W1.assign {g:GC}{j:Nat}{fs:FS}{x:Str}{i:Nat}{e:Expr}{p pos f}(he:WE g j fs e f)(hv:fs.vm x=some i)(hsw:∀ env,swapsWith e (some (.Name x p)) pos.line env=pure false):W1 g j fs (.Assign [.Name x p] e pos) (asg f i):=
 ⟨Sim1.assign (he:=he.out) (hv:=hv) (hsw:=hsw)⟩
theorem zOT {g:GC}{j:Nat}{fs:FS}{x:Str}{i:Nat}{e:Expr}{p pos f}(he:WN g j fs e f)(hv:fs.vm x=some i)(hsw:∀ env,swapsWith e (some (.Name x p)) pos.line env=pure false):W1 g j fs (.Assign [.Name x p] e pos) (zA6 f i):=
 ⟨zPi (he:=he.out) (hv:=hv) (hsw:=hsw)⟩
theorem zPa {g:GC}{j:Nat}{fs:FS}{x:Str}{i:Nat}{e:Expr}{p pos f}(he:WC g j fs e f)(hv:fs.vm x=some i):W1 g j fs (.AugAssign (.Name x p) .Add e pos) (aug i f):=
 ⟨zQq (he:=he.out) (hv:=hv)⟩
theorem zOM {g:GC}{j:Nat}{fs:FS}{t:Expr}{b o:List Stmt}{pos f F G}(ht:WT g j fs t f)(hb:WS g j fs b F)(ho:WS g j fs o G):W1 g j fs (.If t b o pos) (ifS f F G):=
 ⟨zQm (ht:=ht.out) (hb:=hb.out) (ho:=ho.out)⟩
theorem WS.cons {g:GC}{j:Nat}{fs:FS}{st ss F G}(h1:W1 g j fs st F)(h2:WS g j fs ss G):WS g j fs (st::ss) (seqS F G):=
 ⟨SimS.cons (h1:=h1.out) (h2:=h2.out)⟩
theorem zOS {g:GC}{j:Nat}{fs:FS}{N:Nat}{t:Expr}{b:List Stmt}{pos f F}(ht:WT g j fs t f)(hb:WS g j fs b F):W1 g j fs (.While t b [] pos) (zAk N f F):=
 ⟨zPT (ht:=ht.out) (hb:=hb.out)⟩
theorem zOW {g:GC}{j:Nat}{fs:FS}{np:Pos}{pos:Pos}{e:Expr}{f:List Slot→Option V}(B:Bs g)(hk:zAj fs.scope "range"=some .globalImplicit)(he:WC g j fs e f)(hn:notStar e=true):WSrc g j fs (.Call (.Name "range" np) [e] [] pos) (r1V f):=
 ⟨zPK (B:=B) (hk:=hk) (he:=he.out) (hn:=hn)⟩
theorem zPs {g:GC}{j:Nat}{fs:FS}{np:Pos}{pos:Pos}{e:Expr}{e2:Expr}{f:List Slot→Option V}{h:List Slot→Option V}(B:Bs g)(hk:zAj fs.scope "range"=some .globalImplicit)(he:WC g j fs e f)(he2:WC g j fs e2 h)(hn:notStar e=true)(hn2:notStar e2=true):WSrc g j fs (.Call (.Name "range" np) [e,e2] [] pos) (r2V f h):=
 ⟨zPJ (B:=B) (hk:=hk) (he:=he.out) (he2:=he2.out) (hn:=hn) (hn2:=hn2)⟩
theorem zO5 {g:GC}{j:Nat}{fs:FS}{np:Pos}{pos:Pos}{e:Expr}{e2:Expr}{e3:Expr}{f:List Slot→Option V}{h:List Slot→Option V}{k:List Slot→Option V}(B:Bs g)(hk:zAj fs.scope "range"=some .globalImplicit)(he:WC g j fs e f)(he2:WC g j fs e2 h)(he3:WC g j fs e3 k)(hn:notStar e=true)(hn2:notStar e2=true)(hn3:notStar e3=true):WSrc g j fs (.Call (.Name "range" np) [e,e2,e3] [] pos) (r3V f h k):=
 ⟨zPI (B:=B) (hk:=hk) (he:=he.out) (he2:=he2.out) (he3:=he3.out) (hn:=hn) (hn2:=hn2) (hn3:=hn3)⟩
theorem WTg.name {g:GC}{j:Nat}{fs:FS}{x:Str}{i:Nat}{p}(hv:fs.vm x=some i):WTg g j fs (.Name x p) (tgN i):=
 ⟨SimTg.name (hv:=hv)⟩
theorem WTg.tuple {g:GC}{j:Nat}{fs:FS}{es:List Expr}{is:List Nat}{c p}(hn:namesOk fs es is):WTg g j fs (.Tuple es c p) (tgT is):=
 ⟨SimTg.tuple (hn:=hn)⟩
theorem WTgL.name {g:GC}{j:Nat}{fs:FS}{x:Str}{i:Nat}{p}(hv:fs.vm x=some i)(hl:zAj fs.scope x=some .local):WTgL g j fs (.Name x p) (tgN i):=
 ⟨zBi.name (hv:=hv) (hl:=hl)⟩
theorem WTgL.tuple {g:GC}{j:Nat}{fs:FS}{es:List Expr}{is:List Nat}{c p}(hn:namesOk fs es is)(hlo:zBZ fs es):WTgL g j fs (.Tuple es c p) (tgT is):=
 ⟨zBi.tuple (hn:=hn) (hlo:=hlo)⟩
theorem WIfs.one {g:GC}{j:Nat}{fs:FS}{e f}(he:WT g j fs e f):WIfs g j fs [e] f:=
 ⟨zAT.one (he:=he.out)⟩
theorem WN.comp {g:GC}{j:Nat}{fs fsC:FS}{elt:Expr}{target:Expr}{iter:Expr}{ifs:List Expr}{sc:Scope}{pos:Pos}{L:List Nat}{fi:List Slot→Option (List V)}{tg:V→List Slot→Option (List Slot)}{ts:List Slot→Option Bool}{fe:List Slot→Option V}(hs:WSrc g j fs iter fi)(hc:zBU fs fsC sc L)(ht:WTgL g j fsC target tg)(hW:∀ η x η1,(∀ i∈L,η[i]? = some Slot.undef)→tg x η=some η1→Weak η1 η)(hi:WIfs g j fsC ifs ts)(he:WE g j fsC elt fe)(hf:∀ env x,foldedSetIterable iter env x=pure x):WN g j fs (.ListComp elt [⟨target,iter,ifs,0⟩] sc pos) (compF L fi tg ts fe):=
 ⟨SimN.comp (hs:=hs.out) (hc:=hc) (ht:=ht.out) (hW:=hW) (hi:=hi.out) (he:=he.out) (hf:=hf)⟩
theorem zOU {g:GC}{j:Nat}{fs:FS}{pos:Pos}{x:Str}{i:Nat}{e:Expr}{p pos f}(he:WE g j fs e f)(hv:fs.vm x=some i)(hsw:∀ env,EnvOk fs env→swapsWith e (some (.Name x p)) pos.line env=pure false):W1 g j fs (.Assign [.Name x p] e pos) (asg f i):=
 ⟨zPr (he:=he.out) (hv:=hv) (hsw:=hsw)⟩
theorem W1.comp {g:GC}{j:Nat}{fs fsC:FS}{elt:Expr}{target:Expr}{iter:Expr}{ifs:List Expr}{sc:Scope}{pos:Pos}{L:List Nat}{fi:List Slot→Option (List V)}{tg:V→List Slot→Option (List Slot)}{ts:List Slot→Option Bool}{fe:List Slot→Option V}{x:Str}{i:Nat}{p spos}(own:Bool)(hs:WSrc g j fs iter fi)(hc:zBU fs fsC sc L)(ht:WTgL g j fsC target tg)(hW:∀ η x η1,(∀ i∈L,η[i]? = some Slot.undef)→tg x η=some η1→Weak η1 η)(hi:WIfs g j fsC ifs ts)(he:WE g j fsC elt fe)(hv:fs.vm x=some i)(hk:zAj fs.scope x=some .local)(hl:(p.line==pos.line)=true)(hno:(sc.names.any fun (n,k)=>n==x&&(k==.local||k==.cell))=false)(hf:∀ env x,foldedSetIterable iter env x=pure x):W1 g j fs (.Assign [.Name x p] (.ListComp elt [⟨target,iter,ifs,0⟩] sc pos) spos) (fun η=>(compF L fi tg ts fe η).bind fun ys=>some (.next,setS η i (if own=true then .own ys else .val (.lst ys)))):=
 ⟨Sim1.comp (own:=own) (hs:=hs.out) (hc:=hc) (ht:=ht.out) (hW:=hW) (hi:=hi.out) (he:=he.out) (hv:=hv) (hk:=hk) (hl:=hl) (hno:=hno) (hf:=hf)⟩
theorem W1.append {g:GC}{j:Nat}{fs:FS}{x:Str}{i:Nat}{e:Expr}{np ap pos spos f}(he:WE g j fs e f)(hv:fs.vm x=some i)(hn:notStar e=true)(hd:(x==("__debug__":Str))=false)(hline:(ap.endLine==pos.line)=true):W1 g j fs (.Expr (.Call (.Attribute (.Name x np) "append" ap) [e] [] pos) spos) (appS i f):=
 ⟨Sim1.append (he:=he.out) (hv:=hv) (hn:=hn) (hd:=hd) (hline:=hline)⟩
theorem zPo {g:GC}{j:Nat}{fs:FS}{st F}(i:Nat)(h:W1 g j fs st F):W1 g j fs st (frz i F):=
 ⟨zQn (i:=i) (h:=h.out)⟩
theorem zPj {g:GC}{j:Nat}{fs:FS}{x y:Str}{a r:Nat}{p np ap pos}(hx:fs.vm x=some a)(hy:fs.vm y=some r)(hd:(y==("__debug__":Str))=false):W1 g j fs (.Assign [.Name x p] (.Attribute (.Name y np) "append" ap) pos) (zDU a r):=
 ⟨zPq (hx:=hx) (hy:=hy) (hd:=hd)⟩
theorem zOL {g:GC}{j:Nat}{fs:FS}{x:Str}{a:Nat}{e:Expr}{np pos spos f}(he:WE g j fs e f)(hx:fs.vm x=some a){z:Str}{r:Nat}(hz0:fs.vm z=some r)(hn:notStar e=true)(hd:(x==("__debug__":Str))=false):W1 g j fs (.Expr (.Call (.Name x np) [e] [] pos) spos) (appC a r f):=
 ⟨zPm (he:=he.out) (hx:=hx) (hz0:=hz0) (hn:=hn) (hd:=hd)⟩
theorem zPH {g:GC}{j:Nat}{fs:FS}{x:Str}{i:Nat}{e ie:Expr}{np sp pos fv fi}(he:WE g j fs e fv)(hi:WC g j fs ie fi)(hv:fs.vm x=some i)(hsw:∀ env,swapsWith e (some (.Subscript (.Name x np) ie sp)) pos.line env=pure false)(hd:(x==("__debug__":Str))=false):W1 g j fs (.Assign [.Subscript (.Name x np) ie sp] e pos) (setL i fi fv):=
 ⟨zPp (he:=he.out) (hi:=hi.out) (hv:=hv) (hsw:=hsw) (hd:=hd)⟩
theorem zP0 {g:GC}{j:Nat}{fs:FS}{x:Str}{i:Nat}{e ie:Expr}{np sp pos fv fi}(hi:WC g j fs ie fi)(he:WC g j fs e fv)(hv:fs.vm x=some i)(hst:∀ ov iv new,augStore ie ov iv new=(do holding [new,ov,iv] (setItem ov iv new);release [new,ov,iv] [];pure .next))(hd:(x==("__debug__":Str))=false):W1 g j fs (.AugAssign (.Subscript (.Name x np) ie sp) .Add e pos) (augL i fi fv):=
 ⟨zPB (hi:=hi.out) (he:=he.out) (hv:=hv) (hst:=hst) (hd:=hd)⟩
theorem W1.del {g:GC}{j:Nat}{fs:FS}{x:Str}{i:Nat}{ie:Expr}{np sp pos fi}(hi:WC g j fs ie fi)(hv:fs.vm x=some i)(hd:(x==("__debug__":Str))=false):W1 g j fs (.Delete [.Subscript (.Name x np) ie sp] pos) (delS i fi):=
 ⟨zQp (hi:=hi.out) (hv:=hv) (hd:=hd)⟩
theorem zPu {g:GC}{j:Nat}{fs:FS}{ts vs:List Expr}{c c2 p p2 pos is fb}(hb:WB g j fs p2 vs fb)(hn:namesOk fs ts is)(hsw:∀ env,EnvOk fs env→swappedStores [.Tuple ts c p] (.Tuple vs c2 p2) env=pure none):W1 g j fs (.Assign [.Tuple ts c p] (.Tuple vs c2 p2) pos) (tupS is fb):=
 ⟨zP9 (hb:=hb.out) (hn:=hn) (hsw:=hsw)⟩
theorem zO6 {g:GC}{j:Nat}{fs:FS}{ts vs:List Expr}{xs:List Str}{c c2 p p2 pos is fb}(hb:WB g j fs p2 vs fb)(hn:strsOk fs xs is)(hsw:∀ env,EnvOk fs env→swappedStores [.Tuple ts c p] (.Tuple vs c2 p2) env=pure (some xs)):W1 g j fs (.Assign [.Tuple ts c p] (.Tuple vs c2 p2) pos) (tupR is fb):=
 ⟨zQa (hb:=hb.out) (hn:=hn) (hsw:=hsw)⟩
theorem zPY {g:GC}{j:Nat}{fs:FS}(B:Bs g){x:Str}{i:Nat}{p np cp pos}(hk:zAj fs.scope "object"=some .globalImplicit)(hv:fs.vm x=some i):W1 g j fs (.Assign [.Name x p] (.Call (.Name "object" np) [] [] cp) pos) (newS i):=
 ⟨zPA (B:=B) (hk:=hk) (hv:=hv)⟩
theorem zPn {g:GC}{j:Nat}{fs:FS}{o e:Expr}{name:Str}{id:String}{ap pos:Pos}{f h op}(hm:SMeth name id)(ho:WC g j fs o f)(he:WC g j fs e h)(hop:Op2 g j (fun a b=>call (.builtin id) [a,b]) op)(hs:∀ x y r,op x y=some r→∃ l,x=.str l)(hb:∀ env,attributeBase o name env (eval o env)=eval o env)(hline:(ap.endLine==pos.line)=true)(hn:notStar e=true):WE g j fs (.Call (.Attribute o name ap) [e] [] pos) (b2 f h op):=
 ⟨zPx (hm:=hm) (ho:=ho.out) (he:=he.out) (hop:=hop) (hs:=hs) (hb:=hb) (hline:=hline) (hn:=hn)⟩
theorem zPW {g:GC}{j:Nat}{fs:FS}{o e e2:Expr}{name:Str}{id:String}{ap pos:Pos}{f h k op}(hm:SMeth name id)(ho:WC g j fs o f)(he:WC g j fs e h)(he2:WC g j fs e2 k)(hop:Op3 g j (fun a b c=>call (.builtin id) [a,b,c]) op)(hs:∀ x y z r,op x y z=some r→∃ l,x=.str l)(hb:∀ env,attributeBase o name env (eval o env)=eval o env)(hline:(ap.endLine==pos.line)=true)(hn:notStar e=true)(hn2:notStar e2=true):WE g j fs (.Call (.Attribute o name ap) [e,e2] [] pos) (b3 f h k op):=
 ⟨zPw (hm:=hm) (ho:=ho.out) (he:=he.out) (he2:=he2.out) (hop:=hop) (hs:=hs) (hb:=hb) (hline:=hline) (hn:=hn) (hn2:=hn2)⟩
theorem zPV {g:GC}{j:Nat}{fs:FS}{o e e2 e3:Expr}{name:Str}{id:String}{ap pos:Pos}{f h k m op}(hm:SMeth name id)(ho:WC g j fs o f)(he:WC g j fs e h)(he2:WC g j fs e2 k)(he3:WC g j fs e3 m)(hop:Op4 g j (fun a b c d=>call (.builtin id) [a,b,c,d]) op)(hs:∀ x y z q r,op x y z q=some r→∃ l,x=.str l)(hb:∀ env,attributeBase o name env (eval o env)=eval o env)(hline:(ap.endLine==pos.line)=true)(hn:notStar e=true)(hn2:notStar e2=true)(hn3:notStar e3=true):WE g j fs (.Call (.Attribute o name ap) [e,e2,e3] [] pos) (b4 f h k m op):=
 ⟨zPv (hm:=hm) (ho:=ho.out) (he:=he.out) (he2:=he2.out) (he3:=he3.out) (hop:=hop) (hs:=hs) (hb:=hb) (hline:=hline) (hn:=hn) (hn2:=hn2) (hn3:=hn3)⟩
theorem WF.cons {g:GC}{j:Nat}{fs:FS}{e es f h}(he:WE g j fs e f)(hr:WF g j fs es h):WF g j fs (e::es) (strE f h):=
 ⟨SimF.cons (he:=he.out) (hr:=hr.out)⟩
theorem zPt {g:GC}{j:Nat}{fs:FS}{e e2:Expr}{es:List Expr}{pos f}(h:WF g j fs (e::e2::es) f):WE g j fs (.JoinedStr (e::e2::es) pos) (fstrV f):=
 ⟨zP5 (h:=h.out)⟩
theorem WE.joinGen {g:GC}{j:Nat}{fs:FS}{sep:Str}{sepL:List Nat}{k p ap pos}{elt iter:Expr}{x:Str}{px sc gp f fi c q}(hG:GOk g)(hg:GenOk g c)(hc:fs.code=some (c,q))(hkn:(gp,q++"<genexpr>")∈g.known)(hs:sep=ms sepL)(hsl:∀ d∈sepL,d<1114112)(hi:WC g j fs iter fi)(he:QStr g sc x elt f)(hco:sc.isCoroutine=false)(hclos:∀ env,closureFor sc env=pure [])(hcell:∀ y∈sc.names,y.2≠.cell)(h0:sc.names.lookup (".0":Str)=some NameKind.local)(hx:sc.names.lookup x=some .local)(hkind:sc.kind=.function)(hfold:∀ env x,genFold iter env x=pure x)(hb:∀ env,attributeBase (.Constant (.str sep) k p) "join" env (eval (.Constant (.str sep) k p) env)=eval (.Constant (.str sep) k p) env)(hline:(ap.endLine==pos.line)=true):WE g j fs (.Call (.Attribute (.Constant (.str sep) k p) "join" ap) [.GeneratorExp elt [⟨.Name x px,iter,[],0⟩] sc gp] [] pos) (fun η=>(fi η).bind (joinG sepL f)):=
 ⟨SimE.joinGen (hG:=hG) (hg:=hg) (hc:=hc) (hkn:=hkn) (hs:=hs) (hsl:=hsl) (hi:=hi.out) (he:=he) (hco:=hco) (hclos:=hclos) (hcell:=hcell) (h0:=h0) (hx:=hx) (hkind:=hkind) (hfold:=hfold) (hb:=hb) (hline:=hline)⟩
theorem zQd {g:GC}{j:Nat}{fs:FS}{v:Str}{np ap pos p0 p1 p2 p3 p4 p5 p6 p7 p8 lp:Pos}{e2:Expr}{f c q}(hG:GOk g)(hg:GenOk g c)(hc:fs.code=some (c,q))(hkn:(lp,q++"<lambda>")∈g.known)(hfun:∀ p' q',(p',q')∈g.known→p'.line=lp.line→p'.col=lp.col→q'=q++"<lambda>")(hk:zAj fs.scope v=some .globalImplicit)(hp:∃ p,g.mg v=some (.ref p)∧PatAt g.h0 p)(he:WC g j fs e2 f)(hl3:(p3.endLine==p5.line)=true)(hline:(ap.endLine==pos.line)=true)(hn2:notStar e2=true)(hd:(v==("__debug__":Str))=false):WE g (j+1) fs (.Call (.Attribute (.Name v np) "sub" ap) [.Lambda (zBp p0) (zBg p1 p2 p3 p4 p5 p6 p7 p8) zAO lp,e2] [] pos) (fun η=>(f η).bind rsubV):=
 ⟨zPO (hG:=hG) (hg:=hg) (hc:=hc) (hkn:=hkn) (hfun:=hfun) (hk:=hk) (hp:=hp) (he:=he.out) (hl3:=hl3) (hline:=hline) (hn2:=hn2) (hd:=hd)⟩
end Mine.Internal
end
noncomputable section
open PySem PySem.W PySem.Calls PyProof.Rows
namespace Mine.Internal
theorem FnOk.coreW {g:GC}{j:Nat}{fs:FS}{name:Str}{params:Arguments}{body:List Stmt}{scope:Scope}{ps:List Str}{n:Nat}{extra:Nat→List Slot}{B:List Slot→Option (Out×List Slot)}{F:List V→Option V}
  (hG:GOk g) (hat:FnAt g name params body scope fs.code) (hfs:FsOk fs ps n) (hsc:fs.scope=scope) (hbind:∀ pm cd doc (vs:List Value),vs.length=ps.length→bindArgs (docDef name params body scope pm cd doc) ⟨vs,[]⟩=pure (ps.zip vs))
  (hb:WS g j fs body B) (hex:∀ k,(extra k).length+ps.length=n∧∀ sl∈extra k,sl=.undef∨sl=.cnt k) (hF:∀ k xs r,F xs=some r→xs.length=ps.length∧∃ η',B (xs.map .val++extra k)=some (.ret r,η'))
  (hobj:∀ k xs r,F xs=some r→zAM k xs=true→zBP k r=true):∃ fv,g.mg name=some (.ref fv)∧(∃ o fd,g.h0.get? fv=some o∧o.data=.func fd)∧
 ∀ (A:Around) (ids:List Addr) (W:Addr→Prop) (s:Shared) (vs:List Value) (xs:List V) (r:V),AOk (j+1) A→St0 g ids W {s with toks:=s.toks+1}→(0<s.toks∨∃ x l,ps=x::l∧scope.names.lookup x=some .local)→RL ids s.heap W vs xs→F xs=some r→
  wpAny (model g.prog g.w) A (call (.ref fv) vs) (PE g ids W s r) Fl s:=FnOk.core hG hat hfs hsc hbind hb.out hex hF hobj
theorem FnOk.ofW {g:GC}{j:Nat}{fs:FS}{name:Str}{params:Arguments}{body:List Stmt}{scope:Scope}{ps:List Str}{n:Nat}{extra:Nat→List Slot}{B:List Slot→Option (Out×List Slot)}{F:List V→Option V}
  (hG:GOk g) (hat:FnAt g name params body scope fs.code) (hfs:FsOk fs ps n) (hsc:fs.scope=scope) (hbind:∀ pm cd doc (vs:List Value),vs.length=ps.length→bindArgs (docDef name params body scope pm cd doc) ⟨vs,[]⟩=pure (ps.zip vs))
  (hb:WS g j fs body B) (hex:∀ k,(extra k).length+ps.length=n∧∀ sl∈extra k,sl=.undef∨sl=.cnt k) (hF:∀ k xs r,F xs=some r→xs.length=ps.length∧∃ η',B (xs.map .val++extra k)=some (.ret r,η'))
  (hobj:∀ k xs r,F xs=some r→zAM k xs=true→zBP k r=true):FnOk g (j+1) name F:=FnOk.of hG hat hfs hsc hbind hb.out hex hF hobj
/- escape: 1 slots {'pattern': 0} comps [] counter None cells [] -/
noncomputable def zEX:List (Str×Nat):=[("pattern",0)]
noncomputable def zNk:SF:=(seqS (ifS (tT (bnd (nmC 0) zLP)) (seqS (retS (bnd (nmC 0) (zED specials)))
 nilS) (fun _=>none))
 nilS)
noncomputable def arg1:List V→Option V
 | [x]=>some x
 | _=>none
theorem zFW {xs:List V}{x:V}(h:arg1 xs=some x):xs=[x]:=by
 cases xs with
 | nil=>exact noneE h
 | cons a l=>cases l with
  | nil=>rw[Option.some.inj h]
  | cons _ _=>exact noneE h
noncomputable def arg3:List V→Option (V×V×V)
 | [x,y,z]=>some (x,y,z)
 | _=>none
theorem zLu {xs:List V}{q:V×V×V}(h:arg3 xs=some q):xs=[q.1,q.2.1,q.2.2]:=by
 cases xs with
 | nil=>exact noneE h
 | cons a l=>cases l with
  | nil=>exact noneE h
  | cons b l=>cases l with
   | nil=>exact noneE h
   | cons c l=>cases l with
    | nil=>rw[←Option.some.inj h]
    | cons _ _=>exact noneE h
noncomputable def zEn:List V→Option V:=fun xs=>(arg1 xs).bind (zED specials)
theorem zJ9 {xs:List V}{v:V}(h:zEn xs=some v):∃ c,xs=[.str [c]]∧.str (zAX specials c)=v:=by
 refine zbd h fun x h1 h=>?_;refine ze12 (zEC h) fun c h2 h=>?_;exact⟨c,h2▸zFW h1,h⟩
/- _translate: 13 slots {'pat': 0,'STAR': 1,'QUESTION_MARK': 2,'res': 3,'add': 4,'i': 5,'n': 6,'c': 7,'j': 8,'stuff': 9,'chunks': 10,'k': 11,'chunk': 12} comps [] counter None cells [] -/
noncomputable def zEi:List (Str×Nat):=[("pat",0),("STAR",1),("QUESTION_MARK",2),("res",3),("add",4),("i",5),("n",6),("c",7),("j",8),("stuff",9),("chunks",10),("k",11),("chunk",12)]
noncomputable def zEk:SF:=(seqS (asg (b2 (nmC 8) (kI 1) addV) 8)
 nilS)
noncomputable def zCi:List Slot→Option Bool:=(tAnd (t2 (nmC 8) (nmC 6) ltV) (tAnd (t2 (b2 (nmC 0) (nmC 8) idxV) (kS [93]) neV) (kT true)))
noncomputable def zCj:SF:=(seqS (asg (b4 (nmC 0) (kS [45]) (nmC 11) (nmC 8) zGo) 11)
 (seqS (ifS (t2 (nmC 11) (kI 0) ltV) (seqS brkS
 nilS) nilS)
 (seqS (appS 10 (s3 (nmC 0) (nmE 5) (nmE 11)))
 (seqS (asg (b2 (nmC 11) (kI 1) addV) 5)
 (seqS (asg (b2 (nmC 11) (kI 3) addV) 11)
 nilS)))))
noncomputable def zEj:List Slot→Option Bool:=(tT (kB true))
noncomputable def zDa:SF:=(seqS (ifS (t2 (b2 (b2 (nmC 10) (b2 (nmC 11) (kI 1) subV) idxV) (negE (kI 1)) idxV) (b2 (b2 (nmC 10) (nmC 11) idxV) (kI 0) idxV) gtV) (seqS (setL 10 (b2 (nmC 11) (kI 1) subV) (b2 (s3 (b2 (nmC 10) (b2 (nmC 11) (kI 1) subV) idxV) kN (negE (kI 1))) (s3 (b2 (nmC 10) (nmC 11) idxV) (kI 1) kN) addV))
 (seqS (delS 10 (nmC 11))
 nilS)) nilS)
 nilS)
noncomputable def zG5:SF:=(seqS (asg (b2 (nmC 0) (nmC 5) idxV) 7)
 (seqS (asg (b2 (nmC 5) (kI 1) addV) 5)
 (seqS (ifS (t2 (nmC 7) (kS [42]) eqV) (seqS (ifS (tOr (notT (tT (nmC 3))) (tOr (t2 (b2 (nmC 3) (negE (kI 1)) idxV) (nmC 1) zDv) (kT false))) (seqS (appC 4 3 (nmE 1))
 nilS) nilS)
 nilS) (seqS (ifS (t2 (nmC 7) (kS [63]) eqV) (seqS (appC 4 3 (nmE 2))
 nilS) (seqS (ifS (t2 (nmC 7) (kS [91]) eqV) (seqS (asg (nmE 5) 8)
 (seqS (ifS (tAnd (t2 (nmC 8) (nmC 6) ltV) (tAnd (t2 (b2 (nmC 0) (nmC 8) idxV) (kS [33]) eqV) (kT true))) (seqS (asg (b2 (nmC 8) (kI 1) addV) 8)
 nilS) nilS)
 (seqS (ifS (tAnd (t2 (nmC 8) (nmC 6) ltV) (tAnd (t2 (b2 (nmC 0) (nmC 8) idxV) (kS [93]) eqV) (kT true))) (seqS (asg (b2 (nmC 8) (kI 1) addV) 8)
 nilS) nilS)
 (seqS (zAk 100000 zCi zEk)
 (seqS (ifS (t2 (nmC 8) (nmC 6) geV) (seqS (appC 4 3 (kS [92,91]))
 nilS) (seqS (asg (s3 (nmC 0) (nmE 5) (nmE 8)) 9)
 (seqS (ifS (t2 (kS [45]) (nmC 9) ninV) (seqS (asg (bnd (nmC 9) (replV 92 [92,92])) 9)
 nilS) (seqS (zA6 (lstN kA0) 10)
 (seqS (asg (ite3 (t2 (b2 (nmC 0) (nmC 5) idxV) (kS [33]) eqV) (b2 (nmC 5) (kI 2) addV) (b2 (nmC 5) (kI 1) addV)) 11)
 (seqS (zAk 100000 zEj zCj)
 (seqS (asg (s3 (nmC 0) (nmE 5) (nmE 8)) 12)
 (seqS (ifS (tT (nmC 12)) (seqS (appS 10 (nmE 12))
 nilS) (seqS (augL 10 (negE (kI 1)) (kS [45]))
 nilS))
 (seqS (forS (r3V (b2 (bnd (nmC 10) lenV) (kI 1) subV) (kI 0) (negE (kI 1))) (tgN 11) zDa)
 (seqS (asg (bnd (nmC 10) (joinG [45] (fun l=>((fun l=>(some l).bind fun r=>if r.length≤100000 then some (subst 92 [92,92] r) else none) l).bind fun r=>if r.length≤100000 then some (subst 45 [92,45] r) else none))) 9)
 nilS))))))))
 (seqS (asg (bnd (nmC 9) rsubV) 9)
 (seqS (asg (b2 (nmC 8) (kI 1) addV) 5)
 (seqS (ifS (notT (tT (nmC 9))) (seqS (appC 4 3 (kS [40,63,33,41]))
 nilS) (seqS (ifS (t2 (nmC 9) (kS [33]) eqV) (seqS (appC 4 3 (kS [46]))
 nilS) (seqS (ifS (t2 (b2 (nmC 9) (kI 0) idxV) (kS [33]) eqV) (seqS (asg (b2 (kS [94]) (s3 (nmC 9) (kI 1) kN) addV) 9)
 nilS) (seqS (ifS (t2 (b2 (nmC 9) (kI 0) idxV) (tupE (aCons (kS [94]) (aCons (kS [91]) kA0))) inV) (seqS (asg (b2 (kS [92]) (nmC 9) addV) 9)
 nilS) nilS)
 nilS))
 (seqS (appC 4 3 (fstrV (strE (kS [91]) (strE (fmtE (nmE 9)) (strE (kS [93]) kF0)))))
 nilS)))
 nilS))
 nilS))))))
 nilS))))) (seqS (appC 4 3 (bndL (aCons (nmE 7) kA0) zEn))
 nilS))
 nilS))
 nilS))
 nilS)))
noncomputable def zG4:List Slot→Option Bool:=(t2 (nmC 5) (nmC 6) ltV)
noncomputable def zJ2:SF:=(seqS (zA6 (lstN kA0) 3)
 (seqS (zDU 4 3)
 (seqS (tupR [5,6] (bCons (bV (kI 0)) (bCons (bV (bnd (nmC 0) lenV)) kL0)))
 (seqS (zAk 100000 zG4 zG5)
 (seqS (zBh (t2 (nmC 5) (nmC 6) eqV))
 (seqS (frz 3 (retS (nmE 3)))
 nilS))))))
section
variable {g:GC} {j:Nat} {fs:FS}
end
section
variable {g:GC} {j:Nat}
noncomputable def isNV (x y:V):Option Bool:=match y with
 | .none=>some (match x with | .none=>true | _=>false)
 | _=>none
theorem Cmp2.isNone:Cmp2 g j .Is isNV:=by
 intro A ids W s a b x y r hA hW _ ra rb h;have hy:y=.none:=by cases y<;>first | rfl | cases h
 subst hy;cases rb.none;have key:plainIs a .none=true∧isNV x .none=some (a==.none):=by
  cases ra with
  | ofR q=>cases q<;>exact⟨rfl,rfl⟩
  | own=>exact⟨rfl,rfl⟩
 cases key.2.symm.trans h;exact wpAny_is_plain key.1 ⟨Ext.refl _,rfl⟩
end
section
variable {g:GC} {j:Nat} {fs fsC:FS}
end
section
variable {g:GC} {j:Nat} {fs fsC:FS}
end
section
variable {g:GC} {j:Nat} {fs:FS}
end
section
variable {g:GC} {j:Nat} {fs:FS}
end
section
variable {g:GC} {j:Nat} {fs:FS}
end
section
variable {g:GC} {j:Nat} {fs fsC:FS}
structure EmOut (g:GC)(ids:List Addr)(Wo:Addr→Prop)(env:Env)(vm:Str→Option Nat)(gh:Gh)(η:List Slot)(D:Addr)(s:Shared)(vs:List Value)(ys:List V)(gh':Gh)(η':List Slot)(vs':List Value)(s':Shared):Prop where
 adr:gh'.adr=gh.adr
 weak:Weak η' η
 rel:Rel g ids Wo env vm gh' η' (fun _=>none) s'
 acc:s'.heap.PlainList D (List.toArray (vs++vs'))
 rl:RL ids s'.heap (Wt g Wo env gh η) vs' ys
 keep:∀ b o,b≠env.locals→b≠D→b≠g.P→s.heap.get? b=some o→s'.heap.get? b=some o
 size:s.heap.objs.size≤s'.heap.objs.size
 tk:s.toks≤s'.toks
noncomputable def Free (g:GC)(Wo:Addr→Prop)(env:Env)(gh:Gh)(η:List Slot)(D:Addr):Prop:=Wo D∧¬Own env gh η D∧D≠g.P∧g.h0.get? D=none
noncomputable def SimEm (g:GC)(j:Nat)(fs:FS)(em:Value→Env→Sem Unit)(fe:List Slot→Option (List V)):Prop:=
 ∀ (A:Around) (ids:List Addr) (Wo:Addr→Prop) (env:Env) (gh:Gh) (η:List Slot) (s:Shared) (D:Addr) (vs:List Value) (ys:List V),
  AOk j A→EnvOk fs env→Rel g ids Wo env fs.vm gh η (fun _=>none) s→Free g Wo env gh η D→s.heap.PlainList D (List.toArray vs)→vs.length+ys.length≤sizeLine→fe η=some ys→
  wpAny (model g.prog g.w) A (em (.ref D) env) (fun _ s'=>∃ gh' η' vs',EmOut g ids Wo env fs.vm gh η D s vs ys gh' η' vs' s') Fl s
noncomputable def emOne (elt:Expr)(acc:Value)(env:Env):Sem Unit:=do let _ ←call (.builtin "list.append") [acc,←eval elt env]
theorem SimEm.one {elt:Expr}{f:List Slot→Option V}(he:SimE g j fs elt f):SimEm g j fs (emOne elt) (fun η=>(f η).map fun y=>[y]):=by
 intro A ids Wo env gh η s D vs ys hA hE hR hD hacc hz hx;refine ze12 (Option.map_eq_some_iff.mp hx) fun y hy z6=>?_;subst z6;refine zzwqb (zzwqm (he A ids Wo env gh η _ s y hA hE hR hy) (fun v s₁ q=>?_) fun _x _x h=>h);refine ze02 q fun e1 r1=>?_;clear q;have D1:s₁.heap.PlainList D (List.toArray vs):=hacc.at fun o e=>e1.heap _ _ hD.2.2.1 e;refine zzwqb (wpAny_list_append_plain (hsz:=by rw[List.size_toArray];exact Nat.le_of_succ_le hz) D1 fun h2 hl2 hs2=>zzwqp ?_);have hR1:=hR.ext e1;have tab2:TabOk g h2:=zE8 (s':={s₁ with heap:=h2}) hR1.tab D1 hs2 hD.2.2.1;have hz2:s₁.heap.objs.size=h2.objs.size:=hs2.1.symm;have x12:HExt (Wt g Wo env gh η) s₁.heap h2:=fun b o hb e=>hs2.extBut b o (fun h=>hb (h▸.inl hD.1)) e
 exact⟨gh,η,[v],rfl,Weak.refl η,hR1.touch (fun b=>b=D) (fun b hb=>by subst hb;exact⟨hD.1,hD.2.1,hD.2.2.1,rfl,hD.2.2.2⟩) (fun b o hb e=>hs2.extBut b o hb e) (Nat.le_of_eq hz2) (fun h=>h) rfl (zznlr _) tab2,
  by simpa using hl2,.cons (r1.keeps x12) .nil,fun b o _x hbD hp e=>hs2.extBut b o hbD (e1.heap b o hp e),Nat.le_trans e1.size (Nat.le_of_eq hz2),e1.tk⟩
noncomputable def turnG (c:Expr)(d:Nat)(target iter:Expr)(ifs:List Expr)(em:Value→Env→Sem Unit)(it acc:Value)(env:Env):Sem Fin:=do
 standAt iter.pos
 match ←pyNext it with
 | none=>pure (.done .next)
 | some v=>
  letOwnedTupleGo target it v
  assign target env v
  let mut ok:=true
  for c in ifs do
   if ok then ok ←isTrue c env (eval c env)
  if ok then
   em acc env
  again (.compLoop c d it acc env)
theorem zFS {A:Around}{s:Shared}{R:Result→Shared→Prop}{elt:Expr}{gens:List Comprehension}{scope:Scope}{pos:Pos}{d:Nat}{target iter:Expr}{ifs:List Expr}{em:Value→Env→Sem Unit}{it acc:Value}{env:Env}
  (hf:compTurn (.ListComp elt gens scope pos) d it acc env=turnG (.ListComp elt gens scope pos) d target iter ifs em it acc env) (I:Nat→Shared→Prop)
  (turn:∀ n s,I n s→wpAny (model g.prog g.w) A (pyNext it) (fun r s₁=>match r with
   | none=>R (.ok .next) s₁
   | some v=>wpAny (model g.prog g.w) A (letOwnedTupleGo target it v) (fun _x s₁'=>wpAny (model g.prog g.w) A (assign target env v) (fun _x s₂=>
     wpAny (model g.prog g.w) A (forIn ifs true fun c r=>if r=true then do let ok ←isTrue c env (eval c env);pure (ForInStep.yield ok) else pure (ForInStep.yield r)) (fun ok s₃=>
      if ok=true then wpAny (model g.prog g.w) A (em acc env) (fun _x s₅=>∃ m,m<n∧I m s₅) Fl s₃
      else ∃ m,m<n∧I m s₃) Fl s₂) Fl s₁') Fl s₁) Fl s)
  (n:Nat) (h:I n s):codeAny (model g.prog g.w) A (.compLoop (.ListComp elt gens scope pos) d it acc env) R s:=by
 refine codeAny_loop rfl I (fun n s hI=>?_) n h;show wpAny _ A ((compTurn (.ListComp elt gens scope pos) d it acc env).onRaise (fun x=>do noteFrame x env;theTreesLotGoes x)) _ _ s;refine wpAny_noted ?_;rw[hf];refine zzwqb (wpAny_standAt (zzwqb (zzwqm (turn n s hI) (fun r s₁ h₁=>?_) fun _x _x h'=>h'.elim)));cases r with
 | none=>exact zzwqp h₁
 | some v=>
  refine zzwqb (zzwqm h₁ (fun _x s₁' h₁'=>?_) fun _x _x h'=>h'.elim);refine zzwqb (zzwqm h₁' (fun _x s₂ h₂=>zzwqb (zzwqm h₂ (fun ok s₃ h₃=>?_) fun _x _x h'=>h'.elim)) fun _x _x h'=>h'.elim);cases ok with
  | false=>exact zzwqp ⟨rfl,h₃⟩
  | true=>exact zzwqb (zzwqm h₃ (fun _x s₄ h₄=>zzwqp ⟨rfl,h₄⟩) fun _x _x h'=>h'.elim)
noncomputable def itemG (tg:V→List Slot→Option (List Slot))(ts:List Slot→Option Bool)(fe:List Slot→Option (List V))(η:List Slot)(x:V):Option (List V):=
 (tg x η).bind fun η1=>(ts η1).bind fun b=>if b=true then fe η1 else some []
noncomputable def flatE (f:V→Option (List V)):List V→Option (List V)
 | []=>some []
 | x::xs=>(f x).bind fun a=>(flatE f xs).map (a++·)
structure LpInv (g:GC)(ids:List Addr)(Wo:Addr→Prop)(env:Env)(vm:Str→Option Nat)(gh0:Gh)(η:List Slot)(f:V→Option (List V))(xs ys:List V)(vs0:List Value)(P:Nat→Value→Prop)(St:Nat→Heap→Prop)(I D:Addr)(s:Shared)
  (k:Nat) (vs:List Value) (ys0:List V) (gh':Gh) (s':Shared):Prop where
 le:k≤xs.length
 adr:gh'.adr=gh0.adr
 rel:Rel g ids Wo env vm gh' η (fun _=>none) s'
 st:St k s'.heap
 acc:s'.heap.PlainList D (List.toArray (vs0++vs))
 rl:RL ids s'.heap (Wt g Wo env gh0 η) vs ys0
 run:(flatE f (xs.drop k)).map (ys0++·)=some ys
 keep:∀ b o,b≠env.locals→b≠D→b≠I→b≠g.P→s.heap.get? b=some o→s'.heap.get? b=some o
 size:s.heap.objs.size≤s'.heap.objs.size
 tk:s.toks≤s'.toks
 items:∀ i v,P i v→∃ x,xs[i]? = some x∧R ids s'.heap (Wt g Wo env gh0 η) v x
structure LpOut (g:GC)(ids:List Addr)(Wo:Addr→Prop)(env:Env)(vm:Str→Option Nat)(gh0:Gh)(η:List Slot)(ys:List V)(vs0:List Value)(I D:Addr)(s:Shared)(vs:List Value)(gh':Gh)(s':Shared):Prop where
 adr:gh'.adr=gh0.adr
 rel:Rel g ids Wo env vm gh' η (fun _=>none) s'
 acc:s'.heap.PlainList D (List.toArray (vs0++vs))
 rl:RL ids s'.heap (Wt g Wo env gh0 η) vs ys
 keep:∀ b o,b≠env.locals→b≠D→b≠I→b≠g.P→s.heap.get? b=some o→s'.heap.get? b=some o
 size:s.heap.objs.size≤s'.heap.objs.size
 tk:s.toks≤s'.toks
theorem loopG {elt:Expr}{gens:List Comprehension}{sc:Scope}{pos:Pos}{d:Nat}{target iter:Expr}{ifs:List Expr}{em:Value→Env→Sem Unit}{L:List Nat}{tg ts fe}
  (hf:∀ it acc env,compTurn (.ListComp elt gens sc pos) d it acc env=turnG (.ListComp elt gens sc pos) d target iter ifs em it acc env)
  (ht:zBi g j fs target tg) (hW:∀ η x η1,(∀ i∈L,η[i]? = some Slot.undef)→tg x η=some η1→Weak η1 η) (hi:zAT g j fs ifs ts) (hem:SimEm g j fs em fe)
  {A:Around} {ids:List Addr} {Wo:Addr→Prop} {env:Env} {gh0:Gh} {η:List Slot} {s:Shared} {I D:Addr} {fp St P} {xs ys:List V} {vs0:List Value} (hA:AOk j A) (hE:EnvOk fs env) (hL:∀ i∈L,η[i]? = some Slot.undef) (hR:Rel g ids Wo env fs.vm gh0 η (fun _x=>none) s)
  (W:Wlk g I fp xs.length P St) (hst:St 0 s.heap) (hfp:∀ b∈fp,b=I∨(¬Wt g Wo env gh0 η b∧∃ o,s.heap.get? b=some o)) (hP:∀ i v,P i v→∃ x,xs[i]? = some x∧R ids s.heap (Wt g Wo env gh0 η) v x)
  (hI:Free g Wo env gh0 η I) (hD:Free g Wo env gh0 η D) (hID:I≠D) (hacc:s.heap.PlainList D (List.toArray vs0)) (hz:vs0.length+ys.length≤sizeLine) (hx:flatE (itemG tg ts fe η) xs=some ys) {Rr:Result→Shared→Prop}
  (hQ:∀ gh' vs' s',LpOut g ids Wo env fs.vm gh0 η ys vs0 I D s vs' gh' s'→Rr (.ok .next) s'):
  codeAny (model g.prog g.w) A (.compLoop (.ListComp elt gens sc pos) d (.ref I) (.ref D) env) Rr s:=by
 obtain⟨Inv,hInv⟩:∃ Inv:Nat→Shared→Prop,Inv=fun n s'=>∃ k vs ys0 gh',n=xs.length+1-k∧LpInv g ids Wo env fs.vm gh0 η (itemG tg ts fe η) xs ys vs0 P St I D s k vs ys0 gh' s':=⟨_,rfl⟩
 refine zFS (hf _ _ _) Inv ?_ (xs.length+1) (by rw[hInv];exact⟨0,[],[],gh0,rfl,Nat.zero_le _,rfl,hR,hst,by rw[List.append_nil];exact hacc,.nil,by rw[List.drop_zero,hx];rfl,fun _x _x _x _x _x _x e=>e,Nat.le_refl _,Nat.le_refl _,hP⟩)
 rintro n s' hV
 rw[hInv] at hV;obtain⟨k,vs,ys0,gh',rfl,hV⟩:=hV;obtain⟨hk,ha,hR',hst',hacc',hr',hx',hkp,hz',htk,hP'⟩:=hV;have WD:Wt g Wo env gh0 η D:=.inl hD.1;have WI:Wt g Wo env gh0 η I:=.inl hI.1;have WC:Wt g Wo env gh0 η env.locals:=.inr (.inr (.inl rfl));have hIC:I≠env.locals:=fun h=>hI.2.1 (.inl h);have hDC:D≠env.locals:=fun h=>hD.2.1 (.inl h);refine zAg (n:=s'.heap.objs.size) (k:=s'.toks) (zznlr _) (zznlr _) (hR'.turn (i:=k) hA.1 W ⟨hI.1,by rw[zFX ha];exact hI.2.1,hI.2.2.1,rfl,hI.2.2.2⟩ hst' (fun hlt v s₄ hp hst₄ hR₄ hk₄ hz₄ _x ht₄=>?_) (fun he s₄ hR₄ hk₄ hz₄ _x ht₄=>?_) hk)
 ·dsimp only;refine(W.it _ _ hst₄).go ?_;refine ze12 (hP' k v hp) fun x hxi r=>?_;have hd:xs.drop k=x::xs.drop (k+1):=by
   rw[List.drop_eq_getElem_cons hlt];congr 1;have:=zzlge hlt;rw[hxi] at this;exact(zzosi this).symm
  rw[hd] at hx';refine ze12 (Option.map_eq_some_iff.mp hx') fun l hl hys=>?_;refine zbd hl fun y8 h1 hl=>?_;refine ze12 (Option.map_eq_some_iff.mp hl) fun rest hrest z0=>?_;subst z0;refine zbd h1 fun η1 htg h1=>?_;refine zbd h1 fun b2 hts h1=>?_;have h34:HExt (Wt g Wo env gh0 η) s'.heap s₄.heap:=fun b o hb e=>hk₄ b o (fun h=>hb (h▸WI)) e;have hWk:Weak η1 η:=hW η x η1 hL htg;refine zAg (n:=s₄.heap.objs.size) (k:=s₄.toks) (zznlr _) (zznlr _) (zzwqm (ht A ids Wo env gh' η _ s₄ v x η1 hA hE hR₄.all (by rw[zIj ha];exact r.keeps h34) htg) (fun _ s₅ ⟨⟨gh₅,ha₅,hR₅⟩,hk₅⟩ hz₅ ht₅=>?_) fun _x _x h=>h);have hR₅':Rel g ids Wo env fs.vm gh₅ η1 (fun _x=>none) s₅:=hR₅.back fun _x _x e=>by exact noneE e
  have ha5:gh₅.adr=gh0.adr:=ha₅.trans ha
  have next:∀ (s₈:Shared) (gh₈:Gh) (vs8:List Value),gh₈.adr=gh0.adr→Rel g ids Wo env fs.vm gh₈ η (fun _x=>none) s₈→(∀ b o,b≠env.locals→b≠D→b≠g.P→s₄.heap.get? b=some o→s₈.heap.get? b=some o)→
    s₈.heap.PlainList D (List.toArray (vs0++(vs++vs8)))→RL ids s₈.heap (Wt g Wo env gh0 η) vs8 y8→s₄.heap.objs.size≤s₈.heap.objs.size→s₄.toks≤s₈.toks→∃ m,m<xs.length+1-k∧Inv m s₈:=by
   intro s₈ gh₈ vs8 q1 q2 q3 q4 q5 q6 q7;rw[hInv];have h48:HExt (Wt g Wo env gh0 η) s₄.heap s₈.heap:=fun b o hb e=>q3 b o (fun h=>hb (h▸WC)) (fun h=>hb (h▸WD)) (fun h=>hb (h▸Wt_P)) e;refine⟨xs.length+1-(k+1),by exact zn17 hlt,k+1,vs++vs8,ys0++y8,gh₈,rfl,hlt,q1,q2,?_,q4,((hr'.keeps h34).keeps h48).append q5,?_,fun b o hb1 hb2 hb3 hb4 e=>q3 b o hb1 hb2 hb4 (hk₄ b o hb3 (hkp b o hb1 hb2 hb3 hb4 e)),Nat.le_trans hz' (zznlt hz₄ q6),Nat.le_trans htk (zznlt ht₄ q7),fun i v hp=>?_⟩
   ·refine(W.walks A hA.1).frame _ _ _ hst₄ fun b hb o e=>?_;rcases hfp b hb with rfl | ⟨h,_⟩
    ·exact q3 b o hIC hID hI.2.2.1 e
    ·exact h48 b o h e
   ·rw[hrest,←hys];exact congrArg some (zzlaa ..)
   ·refine ze12 (hP' i v hp) fun x a r=>?_;exact⟨x,a,(r.keeps h34).keeps h48⟩
  refine zzwqm (hi A ids Wo env gh₅ η1 _ s₅ b2 hA hE hR₅' hts) (fun ok s₆ q=>?_) fun _x _x h=>h;refine ze02 q fun e6 hok=>?_;clear q;subst hok;have hR6:=hR₅'.ext e6;have D6:s₆.heap.PlainList D (List.toArray (vs0++vs)):=((hacc'.at fun o e=>hk₄ _ o (Ne.symm hID) e).at fun o e=>hk₅ _ o hDC e).at fun o e=>e6.heap _ _ hD.2.2.1 e;have h46:∀ b o,b≠env.locals→b≠g.P→s₄.heap.get? b=some o→s₆.heap.get? b=some o:=fun b o hb hp e=>e6.heap b o hp (hk₅ b o hb e);have hW5:∀ b,Wt g Wo env gh0 η b↔Wt g Wo env gh₅ η1 b:=fun b=>by rw[←zIj (g:=g) (Wo:=Wo) (env:=env) (η:=η) ha5];exact hWk.wt
  cases ok with
  | false=>
   rw[if_neg Bool.false_ne_true] at h1 ⊢;cases h1;exact next s₆ gh₅ [] ha5 (hR6.weak hWk) (fun b o hb _x hp e=>h46 b o hb hp e) (by rw[List.append_nil];exact D6) .nil (zznlt hz₅ e6.size) (zznlt ht₅ e6.tk)
  | true=>
   rw[if_pos rfl] at h1 ⊢;have hlen:(vs0++vs).length+y8.length≤sizeLine:=by
    have e1:=hr'.length;have e2:=congrArg List.length hys;rw[List.length_append,List.length_append] at e2;rw[List.length_append,e1];exact zn160 e2 hz
   refine zzwqm (hem A ids Wo env gh₅ η1 s₆ D (vs0++vs) y8 hA hE hR6 ⟨hD.1,fun h=>hD.2.1 (by have:=hWk.own.mpr h;rwa [zFX ha5] at this),hD.2.2⟩ D6 hlen h1) (fun _x s₇ q=>?_) fun _x _x h=>h;refine ze31 q fun gh₇ η7 vs7 z1=>?_;clear q;obtain⟨q1,q2,q3,q4,q5,q6,q7,q8⟩:=z1;exact next s₇ gh₇ vs7 (q1.trans ha5) ((q3.weak q2).weak hWk) (fun b o hb hbD hp e=>q6 b o hb hbD hp (h46 b o hb hp e)) (by rw[←List.append_assoc];exact q4) (q5.sub fun b h=>(hW5 b).mp h) (zznlt hz₅ (zznlt e6.size q7)) (zznlt ht₅ (zznlt e6.tk q8))
 ·dsimp only;subst he;rw[List.drop_length] at hx';have hys:ys0=ys:=(List.append_nil ys0).symm.trans (zzosi hx');subst hys;have h34:HExt (Wt g Wo env gh0 η) s'.heap s₄.heap:=fun b o hb e=>hk₄ b o (fun h=>hb (h▸WI)) e;exact hQ gh' vs s₄ ⟨ha,hR₄,hacc'.at fun o e=>hk₄ _ o (Ne.symm hID) e,hr'.keeps h34,fun b o hb1 hb2 hb3 hb4 e=>hk₄ b o hb3 (hkp b o hb1 hb2 hb3 hb4 e),Nat.le_trans hz' hz₄,Nat.le_trans htk ht₄⟩
theorem Rel.grow {ids Wo env vm gh η kp}{s s₂:Shared}{I:Addr}(hR:Rel g ids Wo env vm gh η kp s)(e:Ext g s s₂)(h1:s.heap.objs.size≤I)(h2:I<s₂.heap.objs.size):Rel g ids (fun b=>Wo b∨b=I) env vm gh η kp s₂:=
 have hn:∀ o,s.heap.get? I≠some o:=zAf h1
 have hw:∀ b,Wt g (fun b=>Wo b∨b=I) env gh η b→Wt g Wo env gh η b∨b=I:=fun b h=>by
  rcases h with (h | h) | h
  ·exact .inl (.inl h)
  ·exact .inr h
  ·exact .inl (.inr h)
 {hR.ext e with
  adrWo:=fun i sl l h1 h2 h=>h.elim (hR.adrWo i sl l h1 h2) fun q=>absurd (hR.ownLt (.inr (.inr ⟨i,sl,l,h1,h2,rfl⟩))) (by rw[q];exact Nat.not_lt.mpr ‹_›)
  var:=fun x i hx=>by
   refine ze02 (hR.var x i hx) fun hr z2=>?_;refine ze12 z2 fun sl q1 q2=>?_;clear z2;exact⟨hr,sl,q1,q2.mono (e.hext Wt_P) (fun b o ho hb h=>(hw b h).elim hb fun q=>hn o (q▸ho)) fun l hl o ho=>e.heap _ _ (hR.off _ (.inr (.inr ⟨i,sl,l,q1,hl,rfl⟩))).2.2 ho⟩
  wlt:=fun b hb=>by
   rcases hw b hb with h | rfl
   ·exact(hR.ext e).wlt b h
   ·exact h2
  idoff:=fun n a q h=>by
   rcases hw a h with h | rfl
   ·exact hR.idoff n a q h
   ·refine ze12 (hR.idok.there n a q) fun o ho _=>?_;exact hn o ho}
noncomputable def emTwo (c i2:Expr)(acc:Value)(env:Env):Sem Unit:=do
 let x ←eval i2 env
 standAt i2.pos
 let x ←foldedSetIterable i2 env x
 let _ ←runOwn (.compStart c 1 (←holding [x] (pyIter x)) acc env) env
noncomputable def compE (L:List Nat)(fi:List Slot→Option (List V))(tg:V→List Slot→Option (List Slot))(ts:List Slot→Option Bool)(fe:List Slot→Option (List V)):List Slot→Option (List V):=fun η=>
 if (L.all fun i=>η[i]?.any Slot.isUndef)=true then (fi η).bind fun xs=>(flatE (itemG tg ts fe η) xs).bind fun ys=>if ys.length≤sizeLine then some ys else none else none
theorem zEq {L:List Nat}{fi:List Slot→Option (List V)}{tg:V→List Slot→Option (List Slot)}{ts:List Slot→Option Bool}{fe:List Slot→Option (List V)}{η:List Slot}{ys:List V}(h:compE L fi tg ts fe η=some ys):
  (∀ i∈L,η[i]? = some .undef)∧∃ xs,fi η=some xs∧flatE (itemG tg ts fe η) xs=some ys∧ys.length≤sizeLine:=by
 refine ze02 (zAl h) fun h1 h=>?_;refine zbd h fun xs h2 h=>?_;refine zbd h fun zs h3 h=>?_;refine ze02 (zAl h) fun h4 h=>?_;cases h;refine⟨fun i hi=>?_,xs,h2,h3,h4⟩;have:=List.all_eq_true.mp h1 i hi;cases e:η[i]? with
 | none=>rw[e] at this;cases this
 | some sl=>
  rw[e] at this;cases sl with
  | undef=>rfl
  | _=>cases this
theorem zCS {A:Around}{R:Result→Shared→Prop}{s:Shared}{elt target iter:Expr}{g1:Comprehension}{ifs:List Expr}{scope:Scope}{pos:Pos}{it acc:Value}{env:Env}
  (h0:codeAny (model g.prog g.w) A (.compLoop (.ListComp elt [g1,⟨target,iter,ifs,0⟩] scope pos) 1 it acc env) R s)
  (h:wpAny (model g.prog g.w) A (pyIter it) (fun it' s'=>codeAny (model g.prog g.w) A (.compLoop (.ListComp elt [g1,⟨target,iter,ifs,0⟩] scope pos) 1 it' acc env) R s') Fl s):
  codeAny (model g.prog g.w) A (.compStart (.ListComp elt [g1,⟨target,iter,ifs,0⟩] scope pos) 1 it acc env) R s:=by
 refine codeAny_of_tree ?_;show wpAny _ _ ((compStart (.ListComp elt [g1,⟨target,iter,ifs,0⟩] scope pos) 1 it acc env).onRaise (fun x=>do noteFrame x env;standAt theWindowsPlace)) _ _ s;refine wpAny_notedAt ?_;unfold compStart;show wpAny _ _ (ask >>= _) _ _ s;refine zzwqb (wpAny_askSetting (wpAny_ite ?_));split
 ·exact zzwqb (zzwqp (zzwqp (And.intro rfl h0)))
 ·exact zzwqb (wpAny_rule (zzwqb (wpAny_standAt (zzwqb (zzwqm h (fun it' s' h'=>zzwqp (And.intro rfl h')) fun _x _x x=>x.elim)))))
theorem SimEm.gen {elt t2 i2:Expr}{g1:Comprehension}{ifs2:List Expr}{sc:Scope}{pos:Pos}{L:List Nat}{fi tg ts fe}(hs:Src g j fs i2 fi)(ht:zBi g j fs t2 tg)(hW:∀ η x η1,(∀ i∈L,η[i]? = some Slot.undef)→tg x η=some η1→Weak η1 η)
  (hi:zAT g j fs ifs2 ts) (he:SimE g j fs elt fe) (hf:∀ env x,foldedSetIterable i2 env x=pure x):SimEm g j fs (emTwo (.ListComp elt [g1,⟨t2,i2,ifs2,0⟩] sc pos) i2) (compE L fi tg ts (fun η=>(fe η).map fun y=>[y])):=by
 intro A ids Wo env gh η s D vs ys hA hE hR hD hacc hz hx;refine ze02 (zEq hx) fun hL z3=>?_;refine ze13 z3 fun xs hxi hx _=>?_;clear z3;refine zzwqb (zzwqm (hs A ids Wo env gh η _ s xs hA hE hR hxi) (fun xv s₁ h₁=>zzwqb (wpAny_standAt (zzwqb (wpAny_of_eq (hf env xv) (zzwqb (wpAny_holding (zzwqm h₁ (fun it s₂ h₂=>?_) fun _x _x h=>h))))))) fun _x _x h=>h);refine ze02 h₂ fun e1 z4=>?_;clear h₂;refine ze47 z4 fun I fp St P z5 hI1 hI2 W hst hfp hP=>?_;clear z4;subst z5;have hR2:=hR.grow e1 hI1 hI2;have hnI:¬Own env gh η I:=fun h=>absurd (hR.ownLt h) (Nat.not_lt.mpr hI1)
 have hw:∀ b,Wt g (fun b=>Wo b∨b=I) env gh η b→Wt g Wo env gh η b∨b=I:=fun b h=>by
  rcases h with (h | h) | h
  ·exact .inl (.inl h)
  ·exact .inr h
  ·exact .inl (.inr h)
 have fI:Free g (fun b=>Wo b∨b=I) env gh η I:=⟨.inr rfl,hnI,fun h=>by obtain⟨ps,hp,_⟩:=hR.tab;exact zAf hI1 _ (h▸hp),by
  cases q:g.h0.get? I with
  | none=>rfl
  | some o=>exact absurd (hR.keep0 I o q) (zAf hI1 o)⟩
 have hID:I≠D:=fun h=>by obtain⟨n,q⟩:=hacc;exact zAf hI1 _ (h▸q)
 have loop:codeAny (model g.prog g.w) A (.compLoop (.ListComp elt [g1,⟨t2,i2,ifs2,0⟩] sc pos) 1 (.ref I) (.ref D) env) (fun r s'=>match r with | .ok _=>∃ gh' η' vs',EmOut g ids Wo env fs.vm gh η D s vs ys gh' η' vs' s' | .error e=>cameBackBy (model g.prog g.w) A env Fl e s') s₂:=by
  refine loopG (fun _x _x _x=>rfl) ht hW hi (SimEm.one he) hA hE hL hR2 W hst (fun b hb=>?_) (fun i v hp=>?_) fI ⟨.inl hD.1,hD.2⟩ hID (hacc.at fun o e=>e1.heap _ _ hD.2.2.1 e) hz hx fun gh' vs' s' q=>?_
  ·rcases hfp b hb with h | ⟨h,q⟩
   ·exact .inl h
   ·by_cases hb:b=I
    ·exact .inl hb
    ·exact .inr ⟨fun h2=>(hw b h2).elim h hb,q⟩
  ·refine ze12 (hP i v hp) fun x a r=>?_;exact⟨x,a,r.sub hw⟩
  ·obtain⟨q1,q2,q3,q4,q5,q6,q7⟩:=q;exact⟨gh',η,vs',q1,Weak.refl η,q2.less fun b h=>.inl h,q3,q4.sub fun b h=>h.elim (fun h=>.inl (.inl h)) .inr,fun b o h1 h2 h3 e=>q5 b o h1 h2 (Nat.ne_of_lt (zznlv (Heap.lt_size e) hI1)) h3 (e1.heap b o h3 e),Nat.le_trans e1.size q6,Nat.le_trans e1.tk q7⟩
 refine zzwqb (wpAny_runOwn (codeAny_mono (zCS loop ((W.walks A hA.1).self 0 _ _ _ hst loop)) fun r s' h=>?_));cases r with
 | ok f=>exact zzwqp h
 | error e=>exact h
theorem zLm {elt target iter:Expr}{ifs:List Expr}{rest:List Comprehension}{sc:Scope}{pos p:Pos}{L:List Nat}{fi tg ts}{fe:List Slot→Option (List V)}{em:Value→Env→Sem Unit}{use:Option (Value→Sem Unit)}{Q:Value→Shared→Prop}
  (hform:∀ it acc env,compTurn (.ListComp elt (⟨target,iter,ifs,0⟩::rest) sc pos) 0 it acc env=turnG (.ListComp elt (⟨target,iter,ifs,0⟩::rest) sc pos) 0 target iter ifs em it acc env)
  (hs:Src g j fs iter fi) (hc:zBU fs fsC sc L) (ht:zBi g j fsC target tg) (hW:∀ η x η1,(∀ i∈L,η[i]? = some Slot.undef)→tg x η=some η1→Weak η1 η) (hi:zAT g j fsC ifs ts) (hem:SimEm g j fsC em fe)
  (hf:∀ env x,foldedSetIterable iter env x=pure x)
  {A:Around} {ids:List Addr} {Wo:Addr→Prop} {env:Env} {gh:Gh} {η:List Slot} {kp} {s:Shared} {ys:List V} (hA:AOk j A) (hE:EnvOk fs env) (hR:Rel g ids Wo env fs.vm gh η kp s) (hx:compE L fi tg ts fe η=some ys)
  (hQ:CompEnd g ids (Wt g Wo env gh η) s ys A use Q):
  wpAny (model g.prog g.w) A (comprehension (.ListComp elt (⟨target,iter,ifs,0⟩::rest) sc pos) sc env p (newList []) false (eval iter env) use) Q Fl s:=by
 refine ze02 (zEq hx) fun hL z6=>?_;refine ze13 z6 fun xs hxi hx hyz=>?_;clear z6;refine wpAny_comprehension_free rfl (hf env) (hE.freeCl hR hc) hc.kind hc.names ?_;refine zzwqm (hs A ids Wo env gh η kp s xs hA hE hR hxi) (fun xv s₁ h₁=>zzwqm h₁ (fun it s₂ h₂=>?_) fun _x _x h=>h) fun _x _x h=>h;refine ze02 h₂ fun e1 z0=>?_;clear h₂;refine ze47 z0 fun I fp St P z1 hI1 hI2 W hst hfp hP=>?_;clear z0;subst z1;refine wpAny_newObj_type (wpAny_newFunctionEnv hc.nocell (by intro y hy;simp at hy) (fun h₁ hns₁ hsb₁=>?_) hc.kind);dsimp only at hns₁ hsb₁ ⊢;generalize hH2:s₂.heap.push {cls:=.type "list",dict:=none,data:=.seq ([]:List Value).toArray}=H2 at hns₁ hsb₁ ⊢;have hC:H2.objs.size=s₂.heap.objs.size+1:=by rw[←hH2,Heap.size_push]
 have hz1:h₁.objs.size=s₂.heap.objs.size+1+1:=by rw[hsb₁.1,Heap.size_push,hC]
 have hDC:s₂.heap.objs.size≠H2.objs.size:=by rw[hC];exact Nat.ne_of_lt (Nat.lt_succ_self _)
 have below:∀ b,b<s₂.heap.objs.size→b≠H2.objs.size∧b≠s₂.heap.objs.size:=fun b hb=>⟨by rw[hC];exact Nat.ne_of_lt (Nat.lt_succ_of_lt hb),Nat.ne_of_lt hb⟩
 have old:∀ b o,s₂.heap.get? b=some o→h₁.get? b=some o:=fun b o e=>hsb₁.extBut b o (below b (Heap.lt_size e)).1 (Heap.get?_push_of_some _ (hH2▸Heap.get?_push_of_some _ e));have hacc:h₁.PlainList s₂.heap.objs.size ([]:List Value).toArray:=⟨_,hsb₁.extBut _ _ hDC (Heap.get?_push_of_some _ (hH2▸Heap.get?_push_size _ rfl))⟩
 have hst₁:St 0 h₁:=(W.walks A hA.1).frame _ _ _ hst fun b _x o e=>old b o e;have e2:Ext g s {s₂ with heap:=h₁,toks:=s₂.toks+([]:List (Str×Value)).length}:=e1.trans (Ext.of_heap old (by rw[hz1];exact Nat.le_add_right_of_le (zznar _ _)) (zznlr _));generalize hD:s₂.heap.objs.size=D at *;generalize hCC:H2.objs.size=C at *;generalize hs3:({s₂ with heap:=h₁,toks:=s₂.toks+([]:List (Str×Value)).length}:Shared)=s₃ at e2;have hsD:s.heap.objs.size≤D:=hD▸e1.size;have hsC:s.heap.objs.size≤C:=by exact zn38 hC hsD
 have h3h:s₃.heap=h₁:=by rw[←hs3]
 have hID:I≠D:=Nat.ne_of_lt hI2;have hIC:I≠C:=by rw[hC];exact Nat.ne_of_lt (Nat.lt_succ_of_lt hI2)
 have Wo'0:∃ Wo':Addr→Prop,Wo'=fun b=>(Wo b∨b=env.locals∨∃ x,env.cells.lookup x=some b)∨b=I∨b=D:=⟨_,rfl⟩
 refine ze11 Wo'0 fun Wo' hWo'=>?_;clear Wo'0;have hcenv0:∃ cenv,cenv=compEnvC sc (clOf env.cells sc.names []) C env:=⟨_,rfl⟩
 refine ze11 hcenv0 fun cenv hce=>?_;clear hcenv0;obtain⟨hEc,hRc⟩:=hR.comp (Wo':=Wo') (cenv:=cenv) (m:=fun x=>([]:List (Str×Value)).reverse.lookup x) hc hE hL e2 hsC (h3h▸hns₁) hce (fun b hb=>by
   subst hWo';rcases hb with h | rfl | rfl
   ·exact .inl h
   ·exact .inr ⟨hI1,by rw[h3h,hz1];exact Nat.lt_succ_of_lt (Nat.lt_succ_of_lt hI2)⟩
   ·exact .inr ⟨hsD,by rw[h3h,hz1];exact Nat.lt_succ_of_lt (Nat.lt_succ_self _)⟩) (fun b hb=>by subst hWo';exact .inl hb)
 have hcl:∀ x c,(clOf env.cells sc.names []).lookup x=some c→env.cells.lookup x=some c:=fun x c h=>by
  rcases zDh h with h | h
  ·simp at h
  ·exact h
 have ownI:∀ b,Own cenv ⟨fun x=>([]:List (Str×Value)).reverse.lookup x,gh.cm,gh.adr⟩ η b→b=C∨Own env gh η b:=by
  clear hEc hRc;subst hce;intro b hb;rcases hb with h | ⟨x,h⟩ | h
  ·exact .inl h
  ·exact .inr (.inr (.inl ⟨x,hcl x b h⟩))
  ·exact .inr (.inr (.inr h))
 have hnI:¬Own cenv ⟨fun x=>([]:List (Str×Value)).reverse.lookup x,gh.cm,gh.adr⟩ η I:=fun h=>by
  rcases ownI I h with h | h
  ·exact hIC h
  ·exact absurd (hR.ownLt h) (Nat.not_lt.mpr hI1)
 have hnD:¬Own cenv ⟨fun x=>([]:List (Str×Value)).reverse.lookup x,gh.cm,gh.adr⟩ η D:=fun h=>by
  rcases ownI D h with h | h
  ·exact hDC h
  ·exact absurd (hR.ownLt h) (Nat.not_lt.mpr hsD)
 have h0of:∀ b,s.heap.objs.size≤b→g.h0.get? b=none:=fun b hb=>by
  cases q:g.h0.get? b with | none=>rfl | some o=>exact absurd (hR.keep0 b o q) (zAf hb o)
 have hnP:∀ b,s.heap.objs.size≤b→b≠g.P:=fun b hb h=>by obtain⟨ps,hp,_⟩:=hR.tab;exact zAf hb _ (h▸hp)
 have WC:∀ b,(Wt g Wo env gh η b∨b=C∨b=D)→Wt g Wo' cenv ⟨fun x=>([]:List (Str×Value)).reverse.lookup x,gh.cm,gh.adr⟩ η b:=by
  clear hEc hRc ownI hnI hnD;subst hWo' hce;intro b hb;rcases hb with (h | h | h) | h | h
  ·exact .inl (.inl (.inl h))
  ·exact .inr (.inl h)
  ·rcases h with h | h | h
   ·exact .inl (.inl (.inr (.inl h)))
   ·exact .inl (.inl (.inr (.inr h)))
   ·exact .inr (.inr (.inr (.inr h)))
  ·exact .inr (.inr (.inl h))
  ·exact .inl (.inr (.inr h))
 have WC2:∀ b,Wt g Wo' cenv ⟨fun x=>([]:List (Str×Value)).reverse.lookup x,gh.cm,gh.adr⟩ η b→Wt g Wo env gh η b∨b=C∨b=D∨b=I:=by
  intro b hb;clear hEc hRc hnI hnD WC;rcases hb with h | h | h
  ·clear ownI;subst hWo';rcases h with (h | h | h) | rfl | rfl
   ·exact .inl (.inl h)
   ·exact .inl (.inr (.inr (.inl h)))
   ·exact .inl (.inr (.inr (.inr (.inl h))))
   ·exact .inr (.inr (.inr rfl))
   ·exact .inr (.inr (.inl rfl))
  ·exact .inl (.inr (.inl h))
  ·rcases ownI b h with h | h
   ·exact .inr (.inl h)
   ·exact .inl (.inr (.inr h))
 have hWI:Wo' I:=by subst hWo';exact .inr (.inl rfl)
 have hWD:Wo' D:=by subst hWo';exact .inr (.inr rfl)
 have hloc:cenv.locals=C:=by subst hce;rfl
 generalize hgh0:(⟨fun x=>([]:List (Str×Value)).reverse.lookup x,gh.cm,gh.adr⟩:Gh)=gh0 at hRc hnI hnD WC WC2;have fp0:∀ b∈fp,b=I∨(¬Wt g Wo' cenv gh0 η b∧∃ o,s₃.heap.get? b=some o):=fun b hb=>by
  rcases hfp b hb with h | ⟨h,o,ho⟩
  ·exact .inl h
  ·by_cases hbI:b=I
   ·exact .inl hbI
   refine .inr ⟨fun q=>?_,o,h3h▸old b o ho⟩;have:=below b (hD▸Heap.lt_size ho);rcases WC2 b q with q | q | q | q
   ·exact h q
   ·exact this.1 q
   ·exact this.2 q
   ·exact hbI q
 have hP0:∀ i v,P i v→∃ x,xs[i]? = some x∧R ids s₃.heap (Wt g Wo' cenv gh0 η) v x:=fun i v hp=>by
  refine ze12 (hP i v hp) fun x a r=>?_;refine⟨x,a,r.mono (fun _x _x e=>e) (fun b o _x e=>h3h▸old b o e) fun b o ho hn q=>?_⟩;have:=below b (hD▸Heap.lt_size ho);rcases WC2 b q with q | q | q | q
  ·exact hn (.inl q)
  ·exact this.1 q
  ·exact this.2 q
  ·exact hn (.inr q)
 have fI:Free g Wo' cenv gh0 η I:=⟨hWI,hnI,hnP I hI1,h0of I hI1⟩
 have fD:Free g Wo' cenv gh0 η D:=⟨hWD,hnD,hnP D hsD,h0of D hsD⟩
 have hC0:C<s₃.heap.objs.size:=by rw[h3h,hz1,hC];exact Nat.lt_succ_self _
 have hD0:D<s₃.heap.objs.size:=by rw[h3h,hz1];exact Nat.le_succ _
 have loop:codeAny (model g.prog g.w) A (.compLoop (.ListComp elt (⟨target,iter,ifs,0⟩::rest) sc pos) 0 (.ref I) (.ref D) cenv) (compPost (model g.prog g.w) A Fl use Q (.ref D) C) s₃:=by
  refine loopG hform ht hW hi hem hA hEc hL hRc W (h3h▸hst₁) fp0 hP0 fI fD hID (vs0:=[]) (h3h▸hacc) (by rw[List.length_nil,Nat.zero_add];exact hyz) hx fun gh' vs' s' q=>?_;obtain⟨q1,q2,q3,q4,q5,q6,q7⟩:=q;rw[hloc] at q5;have e4:Ext g s s':=e2.touch (fun b=>b=C∨b=D∨b=I) (fun b hb=>by
   rcases hb with rfl | rfl | rfl
   ·exact hsC
   ·exact hsD
   ·exact hI1) (fun b o hb hp e=>q5 b o (fun h=>hb (.inl h)) (fun h=>hb (.inr (.inl h))) (fun h=>hb (.inr (.inr h))) hp e) q2.tab q6 (fun _x=>q2.gens) (q2.os.trans hRc.os.symm) q7
  have hns:s'.heap.Ns C gh'.m:=hloc▸q2.ns;have fin:=hQ s' C D vs' e4 hsC hsD (Ne.symm hDC) (zznlv hC0 q6) (zznlv hD0 q6) ⟨_,hns⟩ q3 (q4.sub WC);cases use with
  | none=>exact⟨_,hns,fin⟩
  | some u=>exact fin
 have:=codeAny_compStart_list (prog:=g.prog) (w:=g.w) (A:=A) (elt:=elt) (target:=target) (iter:=iter) (ifs:=ifs) (rest:=rest) (scope:=sc) (pos:=pos) (it:=.ref I) (acc:=.ref D) (env:=cenv) (s:=s₃) loop ((W.walks A hA.1).self 0 _ _ _ (h3h▸hst₁) loop);subst hce;exact this
theorem zKA {elt t1 i1 t2 i2:Expr}{ifs1 ifs2:List Expr}{sc:Scope}{pos:Pos}{it acc:Value}{env:Env}:compTurn (.ListComp elt [⟨t1,i1,ifs1,0⟩,⟨t2,i2,ifs2,0⟩] sc pos) 0 it acc env =
  turnG (.ListComp elt [⟨t1,i1,ifs1,0⟩,⟨t2,i2,ifs2,0⟩] sc pos) 0 t1 i1 ifs1 (emTwo (.ListComp elt [⟨t1,i1,ifs1,0⟩,⟨t2,i2,ifs2,0⟩] sc pos) i2) it acc env:=by
 unfold turnG emTwo;simp only[bind_assoc,pure_bind];rfl
theorem zPM {elt t1 i1 t2 i2:Expr}{ifs1 ifs2:List Expr}{sc:Scope}{pos:Pos}{L L2:List Nat}{f1 f2 tg1 tg2 ts1 ts2 fe}(hs1:Src g j fs i1 f1)(hc:zBU fs fsC sc L)(ht1:zBi g j fsC t1 tg1)(hW1:∀ η x η1,(∀ i∈L,η[i]? = some Slot.undef)→tg1 x η=some η1→Weak η1 η)(hi1:zAT g j fsC ifs1 ts1)
  (hs2:Src g j fsC i2 f2) (ht2:zBi g j fsC t2 tg2) (hW2:∀ η x η1,(∀ i∈L2,η[i]? = some Slot.undef)→tg2 x η=some η1→Weak η1 η) (hi2:zAT g j fsC ifs2 ts2) (he:SimE g j fsC elt fe)
  (hf1:∀ env x,foldedSetIterable i1 env x=pure x) (hf2:∀ env x,foldedSetIterable i2 env x=pure x):
  SimN g j fs (.ListComp elt [⟨t1,i1,ifs1,0⟩,⟨t2,i2,ifs2,0⟩] sc pos) (compE L f1 tg1 ts1 (compE L2 f2 tg2 ts2 (fun η=>(fe η).map fun y=>[y]))):=by
 intro A ids Wo env gh η kp s ys hA hE hR hx;rw[eval_ListComp];refine zLm (use:=none) (em:=emTwo (.ListComp elt [⟨t1,i1,ifs1,0⟩,⟨t2,i2,ifs2,0⟩] sc pos) i2) (fun _x _x _x=>zKA) hs1 hc ht1 hW1 hi1 (SimEm.gen hs2 ht2 hW2 hi2 he hf2) hf1 hA hE hR hx ?_;intro s' C D vs e' hC hD hne hCl hDl ⟨m,hn⟩ hl r h' hs';have hP:C≠g.P:=fun h=>by obtain⟨ps,hp,_⟩:=hR.tab;exact zAf hC _ (h▸hp)
 refine⟨e'.touch (s₂:={s' with heap:=h'}) (fun b=>b=C) (fun b hb=>hb▸hC) (fun b o hb _x e=>hs'.extBut b o hb e) (zIX (e'.tab hR.tab) hn hs' hP) (Nat.le_of_eq hs'.1.symm) (fun h=>h) rfl (zznlr _),D,vs,rfl,hD,hl.at fun o e=>hs'.extBut _ _ (Ne.symm hne) e,?_,?_⟩
 ·obtain⟨_,_,_,_,h⟩:=zEq hx;exact h
 ·refine(r.keeps (h':=h') fun b o hb e=>hs'.extBut b o (fun h=>hb (.inr (.inl h))) e).sub fun b q=>?_;rcases q with q | q
  ·exact .inl q
  ·exact .inr (.inr q)
end
section
variable {g:GC} {j:Nat} {fs:FS}
end
section
variable {g:GC} {j:Nat} {fs fsC:FS}
noncomputable def iteN (t:List Slot→Option Bool)(f h:List Slot→Option (List V)):List Slot→Option (List V):=fun η=>(t η).bind fun b=>if b=true then f η else h η
theorem WN.ite {t a b:Expr}{pos:Pos}{ft:List Slot→Option Bool}{fa fb:List Slot→Option (List V)}(ht:WT g j fs t ft)(ha:WN g j fs a fa)(hb:WN g j fs b fb):WN g j fs (.IfExp t a b pos) (iteN ft fa fb):=⟨by
 intro A ids Wo env gh η kp s v hA hE hR hx;refine zbd hx fun c hf hx=>?_;refine wpAny_IfExp (zzwqm (ht.out A ids Wo env gh η kp s c hA hE hR hf) (fun c' s₁ q=>?_) fun _x _x h=>h);refine ze02 q fun e1 r1=>?_;clear q;subst r1;have go:∀ {e:Expr} {f:List Slot→Option (List V)},WN g j fs e f→f η=some v→wpAny (model g.prog g.w) A (eval e env) (fun w s'=>Ext g s s'∧∃ a vs,w=.ref a∧s.heap.objs.size≤a∧s'.heap.PlainList a (List.toArray vs)∧v.length≤sizeLine∧RL ids s'.heap (fun b=>Wt g Wo env gh η b∨b=a) vs v) (fun _x _x=>False) s₁:=fun h hy=>
  zzwqm (h.out A ids Wo env gh η kp s₁ v hA hE (hR.ext e1) hy) (fun w s₂ q=>by
   refine ze02 q fun e2 z2=>?_;clear q;refine ze23 z2 fun a vs h1 h2 h3=>?_;clear z2;exact⟨e1.trans e2,a,vs,h1,Nat.le_trans e1.size h2,h3⟩) fun _x _x h=>h
 cases c' with
 | false=>rw[if_neg Bool.false_ne_true] at hx ⊢;exact go hb hx
 | true=>rw[if_pos rfl] at hx ⊢;exact go ha hx⟩
noncomputable def oneF (f:List Slot→Option V):List Slot→Option (List V):=fun η=>(f η).map fun y=>[y]
theorem zPF {elt t1 i1 t2 i2:Expr}{ifs1 ifs2:List Expr}{sc:Scope}{pos:Pos}{L L2:List Nat}{f1 f2:List Slot→Option (List V)}{tg1 tg2:V→List Slot→Option (List Slot)}{ts1 ts2:List Slot→Option Bool}{fe:List Slot→Option V}(hs1:WSrc g j fs i1 f1)(hc:zBU fs fsC sc L)
  (ht1:WTgL g j fsC t1 tg1) (hW1:∀ η x η1,(∀ i∈L,η[i]? = some Slot.undef)→tg1 x η=some η1→Weak η1 η) (hi1:WIfs g j fsC ifs1 ts1) (hs2:WSrc g j fsC i2 f2) (ht2:WTgL g j fsC t2 tg2) (hW2:∀ η x η1,(∀ i∈L2,η[i]? = some Slot.undef)→tg2 x η=some η1→Weak η1 η) (hi2:WIfs g j fsC ifs2 ts2) (he:WE g j fsC elt fe)
  (hf1:∀ env x,foldedSetIterable i1 env x=pure x) (hf2:∀ env x,foldedSetIterable i2 env x=pure x):
  WN g j fs (.ListComp elt [⟨t1,i1,ifs1,0⟩,⟨t2,i2,ifs2,0⟩] sc pos) (compE L f1 tg1 ts1 (compE L2 f2 tg2 ts2 (oneF fe))):=⟨zPM hs1.out hc ht1.out hW1 hi1.out hs2.out ht2.out hW2 hi2.out he.out hf1 hf2⟩
end
@[simp] theorem ev_nmE {i η}:nmE i η=rd η i:=rfl
@[simp] theorem ev_nmC {i η}:nmC i η=rdc η i:=rfl
@[simp] theorem ev_kI {n η}:kI n η=some (.int n):=rfl
@[simp] theorem ev_kS {n η}:kS n η=some (.str n):=rfl
@[simp] theorem ev_kB {n η}:kB n η=some (.bool n):=rfl
@[simp] theorem ev_kN {η}:kN η=some .none:=rfl
@[simp] theorem ev_kT {b η}:kT b η=some b:=rfl
@[simp] theorem ev_kA0 {η}:kA0 η=some []:=rfl
@[simp] theorem ev_kF0 {η}:kF0 η=some []:=rfl
@[simp] theorem ev_kL0 {η}:kL0 η=some []:=rfl
@[simp] theorem ev_b2 {f h o η}:b2 f h o η=(f η).bind fun x=>(h η).bind fun y=>o x y:=rfl
@[simp] theorem ev_b3 {f h k o η}:b3 f h k o η=(f η).bind fun x=>(h η).bind fun y=>(k η).bind fun z=>o x y z:=rfl
@[simp] theorem ev_b4 {f h k m o η}:b4 f h k m o η=(f η).bind fun x=>(h η).bind fun y=>(k η).bind fun z=>(m η).bind fun q=>o x y z q:=rfl
@[simp] theorem ev_s3 {f h k η}:s3 f h k η=(f η).bind fun x=>(h η).bind fun y=>(k η).bind fun z=>zCw x y z:=rfl
@[simp] theorem ev_t2 {f h o η}:t2 f h o η=(f η).bind fun x=>(h η).bind fun y=>o x y:=rfl
@[simp] theorem ev_tAnd {f h η}:tAnd f h η=(f η).bind fun b=>if b=true then h η else some false:=rfl
@[simp] theorem ev_tOr {f h η}:tOr f h η=(f η).bind fun b=>if b=true then some true else h η:=rfl
@[simp] theorem ev_tT {f η}:tT f η=(f η).bind truV:=rfl
@[simp] theorem ev_notT {f η}:notT f η=(f η).map not:=rfl
@[simp] theorem ev_notE {f η}:notE f η=(tT f η).map fun b=>.bool (!b):=rfl
@[simp] theorem ev_booE {f η}:booE f η=(f η).map .bool:=rfl
@[simp] theorem ev_negE {f η}:negE f η=(f η).bind fun x=>match x with | .int i=>some (.int (-i)) | _=>none:=rfl
@[simp] theorem ev_ite3 {t f h η}:ite3 t f h η=(t η).bind fun b=>if b=true then f η else h η:=rfl
@[simp] theorem ev_bnd {f o η}:bnd f o η=(f η).bind o:=rfl
@[simp] theorem ev_bndL {f o η}:bndL f o η=(f η).bind o:=rfl
@[simp] theorem ev_aCons {f h η}:aCons f h η=(f η).bind fun x=>(h η).bind fun xs=>some (x::xs):=rfl
@[simp] theorem ev_bCons {f h η}:bCons f h η=(f η).bind fun x=>(h η).bind fun xs=>some (x::xs):=rfl
@[simp] theorem ev_bV {f η}:bV f η=(f η).map .val:=rfl
@[simp] theorem ev_bO {f η}:bO f η=(f η).map .own:=rfl
@[simp] theorem ev_tupE {f η}:tupE f η=(f η).bind fun xs=>if xs.length≤1000 then some (.tup xs) else none:=rfl
@[simp] theorem ev_lstE {f η}:lstE f η=(f η).bind fun xs=>if xs.length≤1000 then some (.lst xs) else none:=rfl
@[simp] theorem ev_lstN {f η}:lstN f η=(f η).bind fun xs=>if xs.length≤1000 then some xs else none:=rfl
@[simp] theorem ev_valN {f η}:valN f η=(f η).map .lst:=rfl
@[simp] theorem ev_fstrV {f η}:fstrV f η=(f η).bind fun x=>if x.length≤1000000 then some (.str x) else none:=rfl
@[simp] theorem ev_seqI {f η}:seqI f η=(f η).bind zGj:=rfl
@[simp] theorem ev_r1V {f η}:r1V f η=(f η).bind fun x=>zBd (.int 0) x (.int 1):=rfl
@[simp] theorem ev_r2V {f h η}:r2V f h η=(f η).bind fun x=>(h η).bind fun y=>zBd x y (.int 1):=rfl
@[simp] theorem ev_r3V {f h k η}:r3V f h k η=(f η).bind fun x=>(h η).bind fun y=>(k η).bind fun z=>zBd x y z:=rfl
@[simp] theorem ev_nilS {η}:nilS η=some (.next,η):=rfl
@[simp] theorem ev_brkS {η}:brkS η=some (.brk,η):=rfl
theorem zLV {F G:SF}{η η'}(h:F η=some (.next,η')):seqS F G η=G η':=by unfold seqS;rw[h];rfl
theorem zJ7 {F G:SF}{η η' v}(h:F η=some (.ret v,η')):seqS F G η=some (.ret v,η'):=by unfold seqS;rw[h];rfl
theorem zHc {F G:SF}{η η'}(h:F η=some (.brk,η')):seqS F G η=some (.brk,η'):=by unfold seqS;rw[h];rfl
theorem zCQ {f:EF}{i η v}(h:f η=some v):asg f i η=some (.next,setS η i (.val v)):=by unfold asg;rw[h];rfl
theorem zCP {f:List Slot→Option (List V)}{i η v}(h:f η=some v):zA6 f i η=some (.next,setS η i (.own v)):=by unfold zA6;rw[h];rfl
theorem zJ8 {t F G η}(h:t η=some true):ifS t F G η=F η:=by unfold ifS;rw[h];rfl
theorem zLW {t F G η}(h:t η=some false):ifS t F G η=G η:=by unfold ifS;rw[h];rfl
theorem zOr {f:EF}{η v}(h:f η=some v):retS f η=some (.ret v,η):=by unfold retS;rw[h];rfl
theorem zGt {f η}(h:f η=some true):zBh f η=some (.next,η):=by unfold zBh;rw[h];rfl
theorem zAy {n t F η}(h:t η=some false):zAk (n+1) t F η=some (.next,η):=by unfold zAk;rw[h];rfl
theorem zAI {n t F η η'}(h:t η=some true)(hF:F η=some (.next,η')):zAk (n+1) t F η=zAk n t F η':=by rw[zAk,h];simp[hF]
theorem zGs {n t F η η'}(h:t η=some true)(hF:F η=some (.brk,η')):zAk (n+1) t F η=some (.next,η'):=by rw[zAk,h];simp[hF]
theorem zLX {fi tg F η xs}(h:fi η=some xs):forS fi tg F η=forL tg F xs η:=by unfold forS;rw[h];rfl
theorem zDd {tg F x xs η η1 η2}(h:tg x η=some η1)(hF:F η1=some (.next,η2)):forL tg F (x::xs) η=forL tg F xs η2:=by rw[forL,h];simp[hF]
theorem zFw {α:Type}{l:List α}{k:Nat}:idx l (k:Int)=l[k]?:=by
 unfold idx seqIndex?;have h1:¬((k:Int)<0):=by exact Int.not_lt.mpr (Int.natCast_nonneg _)
 by_cases h:k<l.length
 ·simp[h1,h]
 ·simp[h1,h]
theorem zHT {α:Type}{l:List α}:idx l (-1)=l.getLast?:=by
 unfold idx seqIndex?;cases l with
 | nil=>rfl
 | cons a r=>
  have h1:(-1:Int)+((a::r).length:Int)=((r.length:Nat):Int):=by simp;exact zn48
  have h2:((-1:Int)<0)=True:=by simp
  simp only[h2,if_true,h1];have h3:(decide (0≤(r.length:Int))&&decide ((r.length:Int)<((a::r).length:Nat)))=true:=by simp;exact zn49
  rw[if_pos h3];simp[List.getLast?_eq_getElem?]
theorem zH7 {α:Type}{l:List α}{a:Nat}:l.drop (min a l.length)=l.drop a:=by
 by_cases ha:a≤l.length
 ·rw[Nat.min_eq_left ha]
 ·rw[Nat.min_eq_right (Nat.le_of_not_le ha),List.drop_eq_nil_of_le (Nat.le_refl _),List.drop_eq_nil_of_le (Nat.le_of_not_le ha)]
theorem zJe {α:Type}{l:List α}{a b:Nat}:slc l (some (a:Int)) (some (b:Int))=(l.take b).drop a:=by
 unfold slc cl;have h1:¬((a:Int)<0):=by exact Int.not_lt.mpr (Int.natCast_nonneg _)
 have h2:¬((b:Int)<0):=by exact Int.not_lt.mpr (Int.natCast_nonneg _)
 simp only[h1,h2,if_false,Int.toNat_natCast];rw[List.drop_take,zH7];by_cases hb:b≤l.length
 ·rw[Nat.min_eq_left hb];by_cases ha:a≤l.length
  ·rw[Nat.min_eq_left ha]
  ·rw[List.drop_eq_nil_of_le (Nat.le_of_not_le ha)];simp
 ·rw[List.take_of_length_le (by simp;(clear h1;exact zn162 hb)),List.take_of_length_le (by simp;exact zn163 hb)]
theorem zLA {α:Type}{l:List α}{b:Nat}:slc l none (some (b:Int))=l.take b:=by
 have:=zJe (l:=l) (a:=0) (b:=b);simpa [slc,cl] using this
theorem zKK {α:Type}{l:List α}{a:Nat}:slc l (some (a:Int)) none=l.drop a:=by
 unfold slc cl;have h1:¬((a:Int)<0):=by exact Int.not_lt.mpr (Int.natCast_nonneg _)
 simp only[h1,if_false,Int.toNat_natCast];rw[zH7,List.take_of_length_le (by simp;exact zn164)]
theorem zMB {α:Type}{l:List α}:slc l none (some (-1))=l.dropLast:=by
 unfold slc cl;simp[List.dropLast_eq_take]
structure Sd (p:Prop):Prop where
 out:p
structure Rf (p:Prop):Prop where
 out:p
structure Lk (p:Prop):Prop where
 out:p
theorem zJE {n:Nat}(h:Sd (n≤1000000)):n≤sizeLine:=zznlt h.out (by decide)
section
variable {η η':List Slot} {f h k m:EF} {x y z q r:V} {b c:Bool}
theorem x_b2 {o:V→V→Option V}(hf:f η=some x)(hh:h η=some y)(ho:o x y=some r):b2 f h o η=some r:=by unfold b2;rw[hf,hh];exact ho
theorem x_b3 {o:V→V→V→Option V}(hf:f η=some x)(hh:h η=some y)(hk:k η=some z)(ho:o x y z=some r):b3 f h k o η=some r:=by unfold b3;rw[hf,hh,hk];exact ho
theorem x_b4 {o:V→V→V→V→Option V}(hf:f η=some x)(hh:h η=some y)(hk:k η=some z)(hm:m η=some q)(ho:o x y z q=some r):b4 f h k m o η=some r:=by unfold b4;rw[hf,hh,hk,hm];exact ho
theorem x_s3 (hf:f η=some x)(hh:h η=some y)(hk:k η=some z)(ho:zCw x y z=some r):s3 f h k η=some r:=by unfold s3;rw[hf,hh,hk];exact ho
theorem x_t2 {o:V→V→Option Bool}(hf:f η=some x)(hh:h η=some y)(ho:o x y=some b):t2 f h o η=some b:=by unfold t2;rw[hf,hh];exact ho
theorem zL7 {o p:V→V→Option Bool}(hf:f η=some x)(hh:h η=some y)(hk:k η=some z)(ho:o x y=some b)(hp:p y z=some c):zEF f h k o p η=some (b&&c):=by
 unfold zEF;rw[hf,hh,hk];simp only[Option.bind_some,ho,hp];cases b<;>rfl
theorem x_and {f h:List Slot→Option Bool}(hf:f η=some b)(hh:h η=some c):tAnd f h η=some (b&&c):=by unfold tAnd;rw[hf,hh];cases b<;>rfl
theorem x_or {f h:List Slot→Option Bool}(hf:f η=some b)(hh:h η=some c):tOr f h η=some (b||c):=by unfold tOr;rw[hf,hh];cases b<;>rfl
theorem zHo {f h:List Slot→Option Bool}(hf:f η=some false):tAnd f h η=some false:=by unfold tAnd;rw[hf];rfl
theorem zNG {f h:List Slot→Option Bool}(hf:f η=some true)(hh:h η=some c):tAnd f h η=some c:=by unfold tAnd;rw[hf,hh];rfl
theorem x_orT {f h:List Slot→Option Bool}(hf:f η=some true):tOr f h η=some true:=by unfold tOr;rw[hf];rfl
theorem x_orF {f h:List Slot→Option Bool}(hf:f η=some false)(hh:h η=some c):tOr f h η=some c:=by unfold tOr;rw[hf,hh];rfl
theorem x_tT (hf:f η=some x)(ho:truV x=some b):tT f η=some b:=by unfold tT;rw[hf];exact ho
theorem zII {f:List Slot→Option Bool}(hf:f η=some b):notT f η=some (!b):=by unfold notT;rw[hf];rfl
theorem zEB {f:List Slot→Option Bool}(hf:f η=some b):booE f η=some (.bool b):=by unfold booE;rw[hf];rfl
theorem x_ite {t:List Slot→Option Bool}(ht:t η=some b)(hf:f η=some x)(hh:h η=some y):ite3 t f h η=some (if b=true then x else y):=by unfold ite3;rw[ht,hf,hh];cases b<;>rfl
theorem zNE {t:List Slot→Option Bool}(ht:t η=some true)(hf:f η=some x):ite3 t f h η=some x:=by unfold ite3;rw[ht];exact hf
theorem zNF {t:List Slot→Option Bool}(ht:t η=some false)(hh:h η=some y):ite3 t f h η=some y:=by unfold ite3;rw[ht];exact hh
theorem x_bnd {o:V→Option V}(hf:f η=some x)(ho:o x=some r):bnd f o η=some r:=by unfold bnd;rw[hf];exact ho
theorem zA4 {f:List Slot→Option (List V)}{xs:List V}{o:List V→Option V}(hf:f η=some xs)(ho:o xs=some r):bndL f o η=some r:=by unfold bndL;rw[hf];exact ho
theorem zAb {h:List Slot→Option (List V)}{xs:List V}(hf:f η=some x)(hh:h η=some xs):aCons f h η=some (x::xs):=by unfold aCons;rw[hf,hh];rfl
theorem x_bV (hf:f η=some x):bV f η=some (.val x):=by unfold bV;rw[hf];rfl
theorem x_bO {f:List Slot→Option (List V)}{xs}(hf:f η=some xs):bO f η=some (.own xs):=by unfold bO;rw[hf];rfl
theorem zAE {f:List Slot→Option El}{h:List Slot→Option (List El)}{x:El}{xs:List El}(hf:f η=some x)(hh:h η=some xs):bCons f h η=some (x::xs):=by unfold bCons;rw[hf,hh];rfl
theorem x_tup {f:List Slot→Option (List V)}{xs:List V}(hf:f η=some xs)(hl:Sd (xs.length≤1000)):tupE f η=some (.tup xs):=by unfold tupE;rw[hf];exact if_pos hl.out
theorem x_lst {f:List Slot→Option (List V)}{xs:List V}(hf:f η=some xs)(hl:Sd (xs.length≤1000)):lstE f η=some (.lst xs):=by unfold lstE;rw[hf];exact if_pos hl.out
theorem zCo {f:List Slot→Option (List V)}{xs:List V}(hf:f η=some xs)(hl:Sd (xs.length≤1000)):lstN f η=some xs:=by unfold lstN;rw[hf];exact if_pos hl.out
theorem zBK {f:List Slot→Option (List V)}{xs:List V}(hf:f η=some xs):valN f η=some (.lst xs):=by unfold valN;rw[hf];rfl
theorem zCn {h:List Slot→Option (List Nat)}{l l'}(hf:f η=some (.str l))(hh:h η=some l'):strE f h η=some (l++l'):=by unfold strE;rw[hf,hh];rfl
theorem x_fmt {l}(hf:f η=some (.str l)):fmtE f η=some (.str l):=by unfold fmtE;rw[hf];rfl
theorem zIJ {f:List Slot→Option (List Nat)}{l}(hf:f η=some l)(hl:Sd (l.length≤1000000)):fstrV f η=some (.str l):=by unfold fstrV;rw[hf];exact if_pos hl.out
theorem zBL {xs:List V}(hf:f η=some x)(ho:zGj x=some xs):seqI f η=some xs:=by unfold seqI;rw[hf];exact ho
theorem x_r1 {xs:List V}(hf:f η=some x)(ho:zBd (.int 0) x (.int 1)=some xs):r1V f η=some xs:=by unfold r1V;rw[hf];exact ho
theorem x_r2 {xs:List V}(hf:f η=some x)(hh:h η=some y)(ho:zBd x y (.int 1)=some xs):r2V f h η=some xs:=by unfold r2V;rw[hf,hh];exact ho
theorem x_r3 {xs:List V}(hf:f η=some x)(hh:h η=some y)(hk:k η=some z)(ho:zBd x y z=some xs):r3V f h k η=some xs:=by unfold r3V;rw[hf,hh,hk];exact ho
theorem zL8 (hf:f η=some x)(ho:truV x=some true)(hh:h η=some y):bAnd f h η=some y:=by unfold bAnd;rw[hf];simp[ho,hh]
theorem zL9 (hf:f η=some x)(ho:truV x=some false):bAnd f h η=some x:=by unfold bAnd;rw[hf];simp[ho]
end
theorem zAm {a b:Nat}:addV (.int (a:Int)) (.int (b:Int))=some (.int ((a+b:Nat):Int)):=rfl
theorem zOd {a b:Int}:addV (.int a) (.int b)=some (.int (a+b)):=rfl
theorem zJx {a b:List Nat}(h:Sd (a.length+b.length≤1000000)):addV (.str a) (.str b)=some (.str (a++b)):=if_pos (zJE h)
theorem zHI {a b:List V}(h:Sd (a.length+b.length≤1000000)):addV (.lst a) (.lst b)=some (.lst (a++b)):=if_pos (zJE h)
theorem zJu {a b:Nat}(h:Sd (b≤a)):subV (.int (a:Int)) (.int (b:Int))=some (.int ((a-b:Nat):Int)):=congrArg (fun i=>some (V.int i)) (Int.ofNat_sub h.out).symm
theorem zOb {a b:Int}:subV (.int a) (.int b)=some (.int (a-b)):=rfl
theorem o_mod {a b:Int}(h:Sd (b≠0)):modV (.int a) (.int b)=some (.int (a.fmod b)):=if_pos h.out
theorem zLK {a b:Int}(h:Sd (b≠0))(h2:Sd (b.natAbs<2^200)):fdivV (.int a) (.int b)=some (.int (a.fdiv b)):=if_pos ⟨h.out,h2.out⟩
theorem zAZ {l:List Nat}{k c:Nat}(h:Lk (l[k]? = some c)):idxV (.str l) (.int (k:Int))=some (.str [c]):=congrArg (Option.map fun c=>V.str [c]) (zFw.trans h.out)
theorem zA5 {l:List V}{k:Nat}{c:V}(h:Lk (l[k]? = some c)):idxV (.lst l) (.int (k:Int))=some c:=zFw.trans h.out
theorem zCC {l:List V}{k:Nat}{c:V}(h:Lk (l[k]? = some c)):idxV (.tup l) (.int (k:Int))=some c:=zFw.trans h.out
theorem zMO {l:List Nat}{c:Nat}(h:Lk (l.getLast? = some c)):idxV (.str l) (.int (-1))=some (.str [c]):=congrArg (Option.map fun c=>V.str [c]) (zHT.trans h.out)
theorem zMP {l:List V}{c:V}(h:Lk (l.getLast? = some c)):idxV (.lst l) (.int (-1))=some c:=zHT.trans h.out
theorem o_slS {l:List Nat}{a b:Nat}:zCw (.str l) (.int (a:Int)) (.int (b:Int))=some (.str ((l.take b).drop a)):=congrArg (fun i=>some (V.str i)) (zJe ..)
theorem zMN {l:List Nat}{b:Nat}:zCw (.str l) .none (.int (b:Int))=some (.str (l.take b)):=congrArg (fun i=>some (V.str i)) (zLA ..)
theorem zD7 {l:List Nat}{a:Nat}:zCw (.str l) (.int (a:Int)) .none=some (.str (l.drop a)):=congrArg (fun i=>some (V.str i)) (zKK ..)
theorem zJv {l:List V}{b:Nat}:zCw (.lst l) .none (.int (b:Int))=some (.lst (l.take b)):=congrArg (fun i=>some (V.lst i)) (zLA ..)
theorem zNl (a b:Int):(py (.int a)).eqv (py (.int b))=decide (a=b):=by
 simp only[py,PyData.eqv];rw[Bool.eq_iff_iff];simp
theorem zFM (a b:List Nat):(py (.str a)).eqv (py (.str b))=decide (a=b):=by
 simp only[py,PyData.eqv];rw[Bool.eq_iff_iff];simp
theorem o_eqI {a b:Int}:eqV (.int a) (.int b)=some (decide (a=b)):=(if_pos rfl).trans (congrArg some (zNl a b))
theorem o_eqN {a b:Nat}:eqV (.int (a:Int)) (.int (b:Int))=some (decide (a=b)):=o_eqI.trans (congrArg some (decide_eq_decide.mpr Int.ofNat_inj))
theorem o_eqS {a b:List Nat}:eqV (.str a) (.str b)=some (decide (a=b)):=(if_pos rfl).trans (congrArg some (zFM a b))
theorem o_eq1 {a b:Nat}:eqV (.str [a]) (.str [b])=some (decide (a=b)):=o_eqS.trans (congrArg some (decide_eq_decide.mpr ⟨fun h=>(List.cons.inj h).1,fun h=>h▸rfl⟩))
theorem o_ne {x y:V}{b:Bool}(h:eqV x y=some b):neV x y=some (!b):=congrArg (Option.map not) h
theorem o_ltN {a b:Nat}:ltV (.int (a:Int)) (.int (b:Int))=some (decide (a<b)):=congrArg some (decide_eq_decide.mpr Int.ofNat_lt)
theorem o_ltI {a b:Int}:ltV (.int a) (.int b)=some (decide (a<b)):=rfl
theorem o_leN {a b:Nat}:leV (.int (a:Int)) (.int (b:Int))=some (decide (a≤b)):=congrArg some (decide_eq_decide.mpr Int.ofNat_le)
theorem zLM {a b:Nat}:[a]<[b]↔a<b:=by simp[List.cons_lt_cons_iff]
theorem o_lt1 {a b:Nat}:ltV (.str [a]) (.str [b])=some (decide (a<b)):=congrArg some (decide_eq_decide.mpr zLM)
theorem o_le1 {a b:Nat}:leV (.str [a]) (.str [b])=some (decide (a≤b)):=
 (congrArg (fun q=>some (!q)) (decide_eq_decide.mpr zLM)).trans (congrArg some (by rw[←decide_not];exact decide_eq_decide.mpr Nat.not_lt))
theorem o_gt {x y:V}{b:Bool}(h:ltV y x=some b):gtV x y=some b:=h
theorem o_ge {x y:V}{b:Bool}(h:leV y x=some b):geV x y=some b:=h
theorem o_nin {x y:V}{b:Bool}(h:inV x y=some b):ninV x y=some (!b):=congrArg (Option.map not) h
theorem zFq {x y:V}{b:Bool}(h:isV x y=some b):zDv x y=some (!b):=congrArg (Option.map not) h
theorem zBe {l:List Nat}:lenV (.str l)=some (.int (l.length:Nat)):=rfl
theorem zD8 {l:List V}:lenV (.lst l)=some (.int (l.length:Nat)):=rfl
theorem o_chr {i:Int}(h:Sd (0≤i∧i≤1114111)):chrV (.int i)=some (.str [i.toNat]):=if_pos h.out
section
variable {η η1:List Slot} {F G:SF} {l l':List (Option El)} {tl:List Slot} {i:Nat} {r:Option (Out×List Slot)}
theorem s_seq (h:F η=some (.next,η1))(hG:G η1=r):seqS F G η=r:=(zLV h).trans hG
theorem s_nil (h:Rf (some (.next,η)=r)):nilS η=r:=h.out
theorem s_ifT {t:List Slot→Option Bool}(h:t η=some true)(hF:F η=r):ifS t F G η=r:=(zJ8 h).trans hF
theorem s_ifF {t:List Slot→Option Bool}(h:t η=some false)(hG:G η=r):ifS t F G η=r:=(zLW h).trans hG
end
theorem i_N {a b:Nat}:iopV .Add (.int (a:Int)) (.int (b:Int))=some (.int ((a+b:Nat):Int)):=rfl
theorem i_S {a b:List Nat}(h:Sd (a.length+b.length≤1000000)):iopV .Add (.str a) (.str b)=some (.str (a++b)):=by
 exact if_pos (zJE h)
end Mine.Internal
namespace Mine.Internal
section
variable {η η1:List Slot} {F G:SF} {r:Option (Out×List Slot)} {x y:V} {i:Nat} {l:List (Option El)} {tl:List Slot}
theorem x_nmC (h:Rf (rdc η i=some x)):nmC i η=some x:=h.out
theorem x_nmE (h:Rf (rd η i=some x)):nmE i η=some x:=h.out
theorem x_k0:kI 0 η=some (.int ((0:Nat):Int)):=rfl
theorem x_k1:kI 1 η=some (.int ((1:Nat):Int)):=rfl
theorem x_k2:kI 2 η=some (.int ((2:Nat):Int)):=rfl
theorem x_k3:kI 3 η=some (.int ((3:Nat):Int)):=rfl
theorem x_kI {n:Int}:kI n η=some (.int n):=rfl
theorem x_kS {s:List Nat}:kS s η=some (.str s):=rfl
theorem x_kB {b:Bool}:kB b η=some (.bool b):=rfl
theorem x_kN:kN η=some .none:=rfl
theorem x_kT {b:Bool}:kT b η=some b:=rfl
theorem x_kA0:kA0 η=some []:=rfl
theorem x_kF0:kF0 η=some []:=rfl
theorem x_kL0:kL0 η=some []:=rfl
theorem x_m1:negE (kI 1) η=some (.int (-1)):=rfl
theorem zAs {t:List Slot→Option Bool}{b:Bool}(h:t η=some b)(hb:b=true)(hF:F η=r):ifS t F G η=r:=(zJ8 (hb▸h)).trans hF
theorem zAi {t:List Slot→Option Bool}{b:Bool}(h:t η=some b)(hb:b=false)(hG:G η=r):ifS t F G η=r:=(zLW (hb▸h)).trans hG
theorem o_itL {l:List V}:zGj (.lst l)=some l:=rfl
theorem zLG {l:List Nat}:truV (.str l)=some (!l.isEmpty):=rfl
theorem zOa {l:List V}:truV (.lst l)=some (!l.isEmpty):=rfl
theorem zCB {b:Bool}:truV (.bool b)=some b:=rfl
end
end Mine.Internal
namespace Mine.Internal
section
variable {η η1:List Slot} {F G:SF} {v:V}
end
end Mine.Internal
namespace Mine.Internal
end Mine.Internal
namespace Mine.Internal
section
variable {η:List Slot} {f h:EF} {x y:V} {t:List Slot→Option Bool} {b:Bool}
theorem zBA (ht:t η=some b)(hb:b=true)(hf:f η=some x):ite3 t f h η=some x:=zNE (hb▸ht) hf
theorem zBn (ht:t η=some b)(hb:b=false)(hh:h η=some y):ite3 t f h η=some y:=zNF (hb▸ht) hh
theorem x_t (ht:t η=some b){c:Bool}(hb:b=c):t η=some c:=hb▸ht
end
end Mine.Internal
namespace Mine.Internal
theorem zLI {s:List Nat}{a:Nat}:isV (.str s) (.obj a)=some false:=rfl
theorem zLJ {m n:Nat}:isV (.obj m) (.obj n)=some (decide (m=n)):=rfl
end Mine.Internal
namespace Mine.Internal
end Mine.Internal
namespace Mine.Internal
end Mine.Internal
namespace Mine.Internal
noncomputable def gv:Option V→Slot
 | none=>.undef
 | some v=>.val v
noncomputable def go:Option (List V)→Slot
 | none=>.undef
 | some l=>.own l
noncomputable def tη (p:List Nat)(st qm:V)(res:List V)(i n:Int)(c j s:Option V)(ch:Option (List V))(k cu:Option V):List Slot:=
 [.val (.str p),.val st,.val qm,.ownP res,.app 3,.val (.int i),.val (.int n),gv c,gv j,gv s,go ch,gv k,gv cu]
section
variable {p:List Nat} {st qm:V} {res:List V} {i n:Int} {c j s:Option V} {ch:Option (List V)} {k cu:Option V}
theorem t_st5 {x:Int}:setS (tη p st qm res i n c j s ch k cu) 5 (.val (.int x))=tη p st qm res x n c j s ch k cu:=rfl
theorem t_st7 {x:V}:setS (tη p st qm res i n c j s ch k cu) 7 (.val x)=tη p st qm res i n (some x) j s ch k cu:=by cases c<;>rfl
theorem t_st8 {x:V}:setS (tη p st qm res i n c j s ch k cu) 8 (.val x)=tη p st qm res i n c (some x) s ch k cu:=by cases j<;>rfl
theorem t_st9 {x:V}:setS (tη p st qm res i n c j s ch k cu) 9 (.val x)=tη p st qm res i n c j (some x) ch k cu:=by cases s<;>rfl
theorem zNQ {x:List V}:setS (tη p st qm res i n c j s ch k cu) 10 (.own x)=tη p st qm res i n c j s (some x) k cu:=by cases ch<;>rfl
theorem zLw {x:V}:setS (tη p st qm res i n c j s ch k cu) 11 (.val x)=tη p st qm res i n c j s ch (some x) cu:=by cases k<;>rfl
theorem zNP {x:V}:setS (tη p st qm res i n c j s ch k cu) 12 (.val x)=tη p st qm res i n c j s ch k (some x):=by cases cu<;>rfl
theorem zFb:ownL (tη p st qm res i n c j s ch k cu) 10=ch:=by cases ch<;>rfl
theorem zE9 {l l':List V}:updL (tη p st qm res i n c j s (some l) k cu) 10 l'=tη p st qm res i n c j s (some l') k cu:=rfl
theorem zIZ {f:EF}{x:Int}(h:f (tη p st qm res i n c j s ch k cu)=some (.int x)):asg f 5 (tη p st qm res i n c j s ch k cu)=some (.next,tη p st qm res x n c j s ch k cu):=by rw[zCQ h,t_st5]
theorem zNS {f:EF}{x:V}(h:f (tη p st qm res i n c j s ch k cu)=some x):asg f 7 (tη p st qm res i n c j s ch k cu)=some (.next,tη p st qm res i n (some x) j s ch k cu):=by rw[zCQ h,t_st7]
theorem zHs {f:EF}{x:V}(h:f (tη p st qm res i n c j s ch k cu)=some x):asg f 8 (tη p st qm res i n c j s ch k cu)=some (.next,tη p st qm res i n c (some x) s ch k cu):=by rw[zCQ h,t_st8]
theorem zEE {f:EF}{x:V}(h:f (tη p st qm res i n c j s ch k cu)=some x):asg f 9 (tη p st qm res i n c j s ch k cu)=some (.next,tη p st qm res i n c j (some x) ch k cu):=by rw[zCQ h,t_st9]
theorem zMq {f:List Slot→Option (List V)}{x:List V}(h:f (tη p st qm res i n c j s ch k cu)=some x):zA6 f 10 (tη p st qm res i n c j s ch k cu)=some (.next,tη p st qm res i n c j s (some x) k cu):=by rw[zCP h,zNQ]
theorem zFa {f:EF}{x:V}(h:f (tη p st qm res i n c j s ch k cu)=some x):asg f 11 (tη p st qm res i n c j s ch k cu)=some (.next,tη p st qm res i n c j s ch (some x) cu):=by rw[zCQ h,zLw]
theorem zMp {f:EF}{x:V}(h:f (tη p st qm res i n c j s ch k cu)=some x):asg f 12 (tη p st qm res i n c j s ch k cu)=some (.next,tη p st qm res i n c j s ch k (some x)):=by rw[zCQ h,zNP]
theorem t_app {f:EF}{v:V}(h:f (tη p st qm res i n c j s ch k cu)=some v)(hl:res.length<sizeLine):appC 4 3 f (tη p st qm res i n c j s ch k cu)=some (.next,tη p st qm (res++[v]) i n c j s ch k cu):=by
 have e:appC 4 3 f (tη p st qm res i n c j s ch k cu)=appS 3 f (tη p st qm res i n c j s ch k cu):=rfl;have e2:ownL (tη p st qm res i n c j s ch k cu) 3=some res:=rfl;rw[e];unfold appS;simp only[e2,Option.bind_some,h,hl,if_true];rfl
theorem zLz {f:EF}{v:V}{l:List V}(h:f (tη p st qm res i n c j s (some l) k cu)=some v)(hl:l.length<sizeLine):appS 10 f (tη p st qm res i n c j s (some l) k cu)=some (.next,tη p st qm res i n c j s (some (l++[v])) k cu):=by
 unfold appS;simp only[zFb,Option.bind_some,h,hl,if_true,zE9]
end
noncomputable def fi (c:Nat):List Nat→Option Nat
 | []=>none
 | d::l=>if d=c then some 0 else (fi c l).map (·+1)
set_option tactic.hygienic true in
theorem fi_lt {c:Nat}:∀ {l:List Nat} {k:Nat},fi c l=some k→k<l.length∧l[k]? = some c
 | d::l,k,h=>by
  unfold fi at h;split at h
  ·rename_i e;cases h;simp[e]
  ·refine ze12 (Option.map_eq_some_iff.mp h) fun m hm z3=>?_;subst z3;refine ze02 (fi_lt hm) fun h1 h2=>?_;exact⟨by simp;exact h1,by simpa using h2⟩
theorem zBF {c:Nat}:∀ {l:List Nat} {k:Nat},zAJ c l k=match fi c l with | some m=>((k+m:Nat):Int) | none=>-1
 | [],_=>rfl
 | d::l,k=>by
  unfold zAJ fi;split
  ·simp
  ·rw[zBF];cases fi c l with
   | none=>rfl
   | some m=>simp only[Option.map_some];congr 1;exact Nat.succ_add _ _
noncomputable def scan (p:List Nat)(a:Nat):Nat:=match fi 93 (p.drop a) with
 | some m=>a+m
 | none=>p.length
theorem zI0 {p:List Nat}{st qm:V}{res:List V}{i:Int}{c s:Option V}{ch:Option (List V)}{k cu:Option V}:∀ (m a:Nat),p.length-a<m→a≤p.length→
  zAk m zCi zEk (tη p st qm res i p.length c (some (.int a)) s ch k cu)=some (.next,tη p st qm res i p.length c (some (.int (scan p a))) s ch k cu)
 | 0,a,h,_=>absurd h (Nat.not_lt_zero _)
 | m+1,a,h,ha=>by
  by_cases hl:a<p.length
  ·have hd:p.drop a=p[a]::p.drop (a+1):=List.drop_eq_getElem_cons hl
   have hT:zCi (tη p st qm res i p.length c (some (.int a)) s ch k cu)=some (!decide (p[a]=93)):=by
    unfold zCi;have e:p[a]? = some p[a]:=zzlge hl;refine x_t (b:=decide (a<p.length)&&(!decide (p[a]=93)&&true)) (by exact x_and (x_t2 (x_nmC ⟨rfl⟩) (x_nmC ⟨rfl⟩) o_ltN) (x_and (x_t2 (x_b2 (x_nmC ⟨rfl⟩) (x_nmC ⟨rfl⟩) (zAZ ⟨e⟩)) x_kS (o_ne o_eq1)) x_kT)) ?_;rw[decide_eq_true hl,Bool.true_and,Bool.and_true]
   by_cases he:p[a]=93
   ·have:scan p a=a:=by unfold scan;rw[hd];simp[fi,he]
    rw[this,zAy (by rw[hT];simp[he])]
   ·have e2:scan p a=scan p (a+1):=by
     unfold scan;rw[hd];simp only[fi,he,if_false];cases fi 93 (p.drop (a+1)) with
     | none=>rfl
     | some m=>simp;exact(Nat.succ_add _ _).symm
    rw[zAI (η':=tη p st qm res i p.length c (some (.int ((a+1:Nat):Int))) s ch k cu) (by rw[hT];simp[he]) ?_,e2]
    ·exact zI0 m (a+1) (by (clear ha;exact zn166 h hl)) (by (clear h ha;exact hl))
    ·unfold zEk;exact s_seq (zHs (x:=.int ((a+1:Nat):Int)) (by exact x_b2 (x_nmC ⟨rfl⟩) x_k1 zAm)) (s_nil ⟨rfl⟩)
  ·have:a=p.length:=by exact zn51 ha hl
   have e2:scan p a=p.length:=by unfold scan;rw[this];simp[fi]
   rw[zAy ?_,e2,this];unfold zCi;exact zHo (x_t (b:=decide (a<p.length)) (by exact x_t2 (x_nmC ⟨rfl⟩) (x_nmC ⟨rfl⟩) o_ltN) (zzdef hl))
noncomputable def zAe:Nat→List Nat→Nat→Nat→List (List Nat)×Nat
 | 0,_,i,_=>([],i)
 | m+1,w,i,k=>match fi 45 (w.drop k) with
  | none=>([],i)
  | some d=>let r:=zAe m w (k+d+1) (k+d+3);((w.take (k+d)).drop i::r.1,r.2)
noncomputable abbrev vstrs (l:List (List Nat)):List V:=l.map .str
noncomputable def posI (k:Nat):Option Nat→Int
 | some m=>((k+m:Nat):Int)
 | none=>-1
theorem zHZ {p:List Nat}{j k:Nat}(hj:j≤p.length):zGo (.str p) (.str [45]) (.int k) (.int j)=some (.int (posI k (fi 45 ((p.take j).drop k)))):=by
 show some (V.int (zAJ 45 ((p.take (min (zAN p.length j) p.length)).drop (zAN p.length k)) (zAN p.length k)))=_
 have e:∀ a:Nat,zAN p.length (a:Int)=a:=fun a=>by
  unfold zAN;have:¬((a:Int)<0):=by exact Int.not_lt.mpr (Int.natCast_nonneg _)
  simp[this]
 rw[e,e,Nat.min_eq_left hj,zBF];cases fi 45 ((p.take j).drop k)<;>rfl
section
variable {p:List Nat} {st qm:V} {res:List V} {c s:Option V} {cu:Option V} {jn:Nat}
theorem zIY (hj:jn≤p.length)(hp:p.length≤5000):∀ (m i k:Nat) (acc:List (List Nat)),jn-k<m→acc.length+(jn-k)≤6000→
  zAk m zEj zCj (tη p st qm res i p.length c (some (.int jn)) s (some (vstrs acc)) (some (.int k)) cu) =
   some (.next,tη p st qm res ((zAe m (p.take jn) i k).2:Nat) p.length c (some (.int jn)) s (some (vstrs (acc++(zAe m (p.take jn) i k).1))) (some (.int (-1))) cu)
 | 0,_,_,_,h,_=>absurd h (Nat.not_lt_zero _)
 | m+1,i,k,acc,h,ha=>by
  have hT:∀ η,zEj η=some true:=fun η=>rfl;have hlen:(p.take jn).length=jn:=by simp;exact zn167 hj
  unfold zAe;cases hf:fi 45 ((p.take jn).drop k) with
  | none=>
   have hf1:zCj (tη p st qm res i p.length c (some (.int jn)) s (some (vstrs acc)) (some (.int k)) cu)=some (.brk,tη p st qm res i p.length c (some (.int jn)) s (some (vstrs acc)) (some (.int (-1))) cu):=by
    unfold zCj;refine s_seq (zFa (x:=.int (-1)) (x_b4 (x_nmC ⟨rfl⟩) x_kS (x_nmC ⟨rfl⟩) (x_nmC ⟨rfl⟩) ((zHZ hj).trans (by rw[hf];rfl)))) (zHc (s_ifT (x_t (x_t2 (x_nmC ⟨rfl⟩) x_kI o_ltI) rfl) (zHc rfl)))
   rw[zGs (hT _) hf1,List.append_nil]
  | some d=>
   have hd:=fi_lt hf;have hdl:k+d<jn:=by have:=hd.1;rw[List.length_drop,hlen] at this;exact Nat.add_lt_of_lt_sub' this
   rw[zAI (hT _) (η':=tη p st qm res ((k+d+1:Nat):Int) p.length c (some (.int jn)) s (some (vstrs (acc++[((p.take jn).take (k+d)).drop i]))) (some (.int ((k+d+3:Nat):Int))) cu)]
   ·rw[zIY hj hp m (k+d+1) (k+d+3) _ (zn168 hdl h) (by simp;exact zn169 ha hdl)];simp
   ·have hcut:(p.take jn).take (k+d)=p.take (k+d):=by rw[List.take_take,Nat.min_eq_left (Nat.le_of_lt hdl)]
    unfold zCj;refine s_seq (zFa (x:=.int ((k+d:Nat):Int)) (x_b4 (x_nmC ⟨rfl⟩) x_kS (x_nmC ⟨rfl⟩) (x_nmC ⟨rfl⟩) ((zHZ hj).trans (by rw[hf];rfl)))) ?_;refine s_seq (s_ifF (x_t (x_t2 (x_nmC ⟨rfl⟩) x_kI o_ltI) (zzdef zn171)) (s_nil ⟨rfl⟩)) ?_;refine s_seq (zLz (v:=.str ((p.take (k+d)).drop i)) (x_s3 (x_nmC ⟨rfl⟩) (x_nmE ⟨rfl⟩) (x_nmE ⟨rfl⟩) o_slS) (by
     have:sizeLine=16777216:=rfl;simp;exact zn172 ha this)) ?_
    refine s_seq (zIZ (x:=((k+d+1:Nat):Int)) (x_b2 (x_nmC ⟨rfl⟩) x_k1 zAm)) ?_;refine s_seq (zFa (x:=.int ((k+d+3:Nat):Int)) (x_b2 (x_nmC ⟨rfl⟩) x_k3 zAm)) ?_;rw[hcut];exact s_nil ⟨by rw[show vstrs (acc++[(p.take (k+d)).drop i])=vstrs acc++[.str ((p.take (k+d)).drop i)] from List.map_append]⟩
end
noncomputable def last0 (l:List Nat):Nat:=l.getLast?.getD 0
noncomputable def head0 (l:List Nat):Nat:=l.head?.getD 0
noncomputable def step (x:List Nat):List (List Nat)→List (List Nat)
 | y::ys=>if head0 y<last0 x then (x.dropLast++y.drop 1)::ys else x::y::ys
 | []=>[x]
noncomputable def mrg:List (List Nat)→List (List Nat)
 | []=>[]
 | x::r=>step x (mrg r)
theorem step_cons {x y:List Nat}{ys}:step x (y::ys)=if head0 y<last0 x then (x.dropLast++y.drop 1)::ys else x::y::ys:=rfl
theorem zMu {x M}:step x M≠[]:=by
 unfold step;split
 ·split<;>simp
 ·simp
theorem zLL {l:List (List Nat)}(h:l≠[]):mrg l≠[]:=by
 cases l with
 | nil=>exact absurd rfl h
 | cons x r=>exact zMu
noncomputable def goodT:List (List Nat)→Prop
 | []=>True
 | [x]=>x≠[]
 | x::y::r=>2≤x.length∧goodT (y::r)
theorem zKV:∀ {l:List (List Nat)},goodT l→∀ y∈(mrg l).head?,y≠[]
 | [],_,y,h=>by simp[mrg] at h
 | [x],h,y,hy=>by
  have:y=x:=by simpa [mrg,step] using hy.symm
  rw[this];exact h
 | x::y::r,⟨h1,h2⟩,z,hz=>by
  unfold mrg at hz;cases hM:mrg (y::r) with
  | nil=>exact absurd hM (zLL (by simp))
  | cons m ms=>
   rw[hM,step_cons] at hz;split at hz
   ·simp only[List.head?_cons,Option.mem_some_iff] at hz;rw[←hz];intro e;have:=congrArg List.length e;simp at this;exact zn173 this h1
   ·simp only[List.head?_cons,Option.mem_some_iff] at hz;rw[←hz];intro e;rw[e] at h1;simp at h1
noncomputable def down (n:Nat):List V:=(List.range n).map fun (i:Nat)=>V.int ((n:Int)-i)
theorem zKh (n:Nat):down (n+1)=.int ((n+1:Nat):Int)::down n:=by
 unfold down;rw[List.range_succ_eq_map,List.map_cons,List.map_map];congr 1;apply List.map_congr_left;intro i _;simp only[Function.comp_apply];congr 1
 push_cast
 exact zn174
theorem zIt (n:Nat):zBO (n:Int) 0 (-1)=down n:=by
 unfold zBO down;have:zBk (n:Int) 0 (-1)=n:=by
  unfold zBk Builtin.Range.rangeSize;simp;split<;>lia
 rw[this];apply List.map_congr_left;intro i _;congr 1;exact zn175
theorem zDp {k n:Nat}(h:k<n):seqIndex? (k:Int) n=some k:=by
 unfold seqIndex?;have h1:¬((k:Int)<0):=by exact Int.not_lt.mpr (Int.natCast_nonneg _)
 simp only[h1,if_false];rw[if_pos (by simp;exact h)];rfl
section
variable {p:List Nat} {st qm:V} {res:List V} {i n:Int} {c j s:Option V} {cu:Option V}
theorem zNO {A:List (List Nat)}{x y:List Nat}{ys:List (List Nat)}(hx:x≠[])(hy:y≠[])(hz:x.length+y.length≤1000000):
  zDa (tη p st qm res i n c j s (some (vstrs (A++x::y::ys))) (some (.int ((A.length+1:Nat):Int))) cu) =
   some (.next,tη p st qm res i n c j s (some (vstrs (A++step x (y::ys)))) (some (.int ((A.length+1:Nat):Int))) cu):=by
 obtain⟨lx,hlx⟩:∃ lx,x.getLast? = some lx:=by cases x with | nil=>exact absurd rfl hx | cons a r=>exact⟨_,List.getLast?_cons⟩
 obtain⟨b,ty,rfl⟩:∃ a r,y=a::r:=by cases y with | nil=>exact absurd rfl hy | cons a r=>exact⟨a,r,rfl⟩
 have g1:(vstrs (A++x::(b::ty)::ys))[A.length]? = some (.str x):=by simp
 have g2:(vstrs (A++x::(b::ty)::ys))[A.length+1]? = some (.str (b::ty)):=by simp
 have hlast:last0 x=lx:=by unfold last0;rw[hlx];rfl
 generalize hL:vstrs (A++x::(b::ty)::ys)=L at *;have hk1:(b2 (nmC 11) (kI 1) subV) (tη p st qm res i n c j s (some L) (some (.int ((A.length+1:Nat):Int))) cu)=some (.int (A.length:Nat)):=x_b2 (x_nmC ⟨rfl⟩) x_k1 (zJu ⟨zznal _ _⟩);have hc1:(b2 (nmC 10) (b2 (nmC 11) (kI 1) subV) idxV) (tη p st qm res i n c j s (some L) (some (.int ((A.length+1:Nat):Int))) cu)=some (.str x):=x_b2 (x_nmC ⟨rfl⟩) hk1 (zA5 ⟨g1⟩);have hc2:(b2 (nmC 10) (nmC 11) idxV) (tη p st qm res i n c j s (some L) (some (.int ((A.length+1:Nat):Int))) cu)=some (.str (b::ty)):=x_b2 (x_nmC ⟨rfl⟩) (x_nmC ⟨rfl⟩) (zA5 ⟨g2⟩)
 have hT:(t2 (b2 (b2 (nmC 10) (b2 (nmC 11) (kI 1) subV) idxV) (negE (kI 1)) idxV) (b2 (b2 (nmC 10) (nmC 11) idxV) (kI 0) idxV) gtV) (tη p st qm res i n c j s (some L) (some (.int ((A.length+1:Nat):Int))) cu)=some (decide (b<lx)):=
  x_t2 (x_b2 hc1 x_m1 (zMO ⟨hlx⟩)) (x_b2 hc2 x_k0 (zAZ ⟨rfl⟩)) (o_gt o_lt1)
 have hst:step x ((b::ty)::ys)=if b<lx then (x.dropLast++ty)::ys else x::(b::ty)::ys:=by rw[step_cons,hlast];rfl
 unfold zDa;refine s_seq ?_ (s_nil ⟨rfl⟩);by_cases hlt:b<lx
 ·rw[hst,if_pos hlt];refine zAs hT (zzdet hlt) (s_seq (η1:=tη p st qm res i n c j s (some (vstrs (A++(x.dropLast++ty)::(b::ty)::ys))) (some (.int ((A.length+1:Nat):Int))) cu) ?_ (s_seq ?_ (s_nil ⟨rfl⟩)))
  ·have hv:(b2 (s3 (b2 (nmC 10) (b2 (nmC 11) (kI 1) subV) idxV) kN (negE (kI 1))) (s3 (b2 (nmC 10) (nmC 11) idxV) (kI 1) kN) addV) (tη p st qm res i n c j s (some L) (some (.int ((A.length+1:Nat):Int))) cu)=some (.str (x.dropLast++ty)):=
    x_b2 (x_s3 hc1 x_kN x_m1 (congrArg (fun l=>some (V.str l)) zMB)) (x_s3 hc2 x_k1 x_kN zD7) (zJx ⟨by simp at hz ⊢;exact zn176 hz⟩)
   have e3:seqIndex? ((A.length:Nat):Int) L.length=some A.length:=by
    rw[←hL];exact zDp (by simp)
   unfold setL;rw[hv,hk1];simp only[Option.bind_some,zEv,zFb,e3,zE9];rw[←hL];congr 2;simp
  ·have e3:seqIndex? ((A.length+1:Nat):Int) (vstrs (A++(x.dropLast++ty)::(b::ty)::ys)).length=some (A.length+1):=zDp (by simp)
   have e4:(vstrs (A++(x.dropLast++ty)::(b::ty)::ys)).eraseIdx (A.length+1)=vstrs (A++(x.dropLast++ty)::ys):=by
    have h9:¬(A.length+1<A.length):=by exact zn177
    have h8:A.length+1-A.length=1:=by exact zn178
    simp[List.eraseIdx_append,h9,h8]
   unfold delS;rw[show nmC 11 (tη p st qm res i n c j s (some (vstrs (A++(x.dropLast++ty)::(b::ty)::ys))) (some (.int ((A.length+1:Nat):Int))) cu)=some (.int ((A.length+1:Nat):Int)) from rfl];simp only[zFb,Option.bind_some,zEv,e3,zE9,e4]
 ·rw[hst,if_neg hlt,hL];exact zAi hT (zzdef hlt) (s_nil ⟨rfl⟩)
end
theorem zEP:∀ {A B:List (List Nat)},goodT (A++B)→B≠[]→goodT B
 | [],_,h,_=>h
 | [x],b::B,h,_=>h.2
 | [x],[],_,h=>absurd rfl h
 | x::y::A,B,h,hb=>zEP (A:=y::A) h.2 hb
theorem zFy:∀ {cs:List (List Nat)} {l:List Nat},(∀ x∈cs,2≤x.length)→l≠[]→goodT (cs++[l])
 | [],_,_,h=>h
 | [x],_,hc,h=>⟨hc x (by simp),h⟩
 | x::y::cs,_,hc,h=>⟨hc x (by simp),zFy (cs:=y::cs) (fun z hz=>hc z (zzlmc _ hz)) h⟩
theorem zCD:∀ l:List (List Nat),(mrg l).flatten.length≤l.flatten.length∧(mrg l).length≤l.length
 | []=>⟨zznlr _,Nat.le_refl _⟩
 | x::r=>by
  refine ze02 (zCD r) fun h1 h2=>?_;unfold mrg;cases hM:mrg r with
  | nil=>simp only[step];constructor<;>simp
  | cons m ms=>
   rw[hM] at h1 h2;rw[step_cons];split
   ·simp at h1 h2 ⊢;exact zn179 h2 h1
   ·simp at h1 h2 ⊢;exact⟨h1,h2⟩
section
variable {p:List Nat} {st qm:V} {res:List V} {i n:Int} {c j s:Option V} {cu:Option V}
theorem zI1:∀ (m:Nat) (A B:List (List Nat)) (k:Option V),A.length=m→B≠[]→(A≠[]→goodT (A.drop 1++B))→(∀ a∈A,a≠[])→(A++B).flatten.length≤10000→
  ∃ k',forL (tgN 11) zDa (down m) (tη p st qm res i n c j s (some (vstrs (A++mrg B))) k cu)=some (.next,tη p st qm res i n c j s (some (vstrs (mrg (A++B)))) k' cu)
 | 0,A,B,k,hA,_,_,_,_=>by
  have:A=[]:=List.length_eq_zero_iff.mp hA;subst this;exact⟨k,rfl⟩
 | m+1,A,B,k,hA,hB,hg,hn,hz=>by
  have hAne:A≠[]:=fun e=>by rw[e] at hA;cases hA
  obtain⟨A',x,rfl⟩:∃ A' x,A=A'++[x]:=⟨A.dropLast,A.getLast hAne,(List.dropLast_concat_getLast hAne).symm⟩
  have hA':A'.length=m:=by simpa using hA
  have hgB:goodT B:=zEP (A:=(A'++[x]).drop 1) (hg (by simp)) hB;have hne:=zLL hB;obtain⟨y,ys,hM⟩:∃ y ys,mrg B=y::ys:=by cases h:mrg B with | nil=>exact absurd h hne | cons y ys=>exact⟨y,ys,rfl⟩
  have hy:y≠[]:=zKV hgB y (by rw[hM];simp);have hx:x≠[]:=hn x (by simp)
  have hsz:x.length+y.length≤1000000:=by
   have h1:=(zCD B).1;rw[hM] at h1;simp at h1 hz;exact zn181 hz h1
  have e1:vstrs (A'++[x]++mrg B)=vstrs (A'++x::y::ys):=by rw[hM];simp
  rw[zKh,e1];rw[zDd (η1:=tη p st qm res i n c j s (some (vstrs (A'++x::y::ys))) (some (.int ((m+1:Nat):Int))) cu) (η2:=tη p st qm res i n c j s (some (vstrs (A'++step x (y::ys)))) (some (.int ((m+1:Nat):Int))) cu)]
  ·have e2:step x (y::ys)=mrg (x::B):=by rw[←hM];rfl
   rw[e2];have:=zI1 m A' (x::B) (some (.int ((m+1:Nat):Int))) hA' (by simp) ?_ (fun a ha=>hn a (by simp[ha])) (by simpa using hz)
   ·simpa using this
   ·intro hA2;cases A' with
    | nil=>exact absurd rfl hA2
    | cons a A''=>simpa using hg (by simp)
  ·exact congrArg some zLw
  ·rw[←hA'];exact zNO hx hy hsz
end
theorem zCb:∀ (m:Nat) (w:List Nat) (i k:Nat),i+1≤k→i≤w.length→
  (∀ x∈(zAe m w i k).1,k-i≤x.length∨2≤x.length)∧(∀ x∈(zAe m w i k).1.drop 1,2≤x.length)∧(zAe m w i k).2≤w.length∧
   (zAe m w i k).1.flatten.length+(zAe m w i k).1.length+(w.length-(zAe m w i k).2)≤w.length-i∧((zAe m w i k).1=[]→(zAe m w i k).2=i)
 | 0,w,i,k,_,hi=>⟨by simp[zAe],by simp[zAe],hi,by simp[zAe],fun _x=>rfl⟩
 | m+1,w,i,k,hk,hi=>by
  unfold zAe;cases hf:fi 45 (w.drop k) with
  | none=>exact⟨by simp,by simp,hi,by simp,fun _x=>rfl⟩
  | some d=>
   have hd:=(fi_lt hf).1;rw[List.length_drop] at hd;obtain⟨h1,h2,h3,h4,h5⟩:=zCb m w (k+d+1) (k+d+3) (Nat.le_succ _) (Nat.add_lt_of_lt_sub' hd);have hl:((w.take (k+d)).drop i).length=k+d-i:=by rw[List.length_drop,List.length_take,Nat.min_eq_left (Nat.le_of_lt (Nat.add_lt_of_lt_sub' hd))]
   have h2':∀ x∈(zAe m w (k+d+1) (k+d+3)).1,2≤x.length:=fun x hx=>by
    rcases h1 x hx with h | h
    ·have e:k+d+3-(k+d+1)=2:=by clear h1 h2 h3 h4 h5;exact zn184
     rw[e] at h;exact h
    ·exact h
   refine⟨fun x hx=>?_,fun x hx=>h2' x hx,h3,?_,fun h=>by cases h⟩
   ·rcases List.mem_cons.mp hx with rfl | hx
    ·left;rw[hl];exact Nat.sub_le_sub_right (zznar _ _) _
    ·exact .inr (h2' x hx)
   ·simp only[List.flatten_cons,List.length_append,List.length_cons,hl];generalize (zAe m w (k+d+1) (k+d+3)).1.flatten.length=A at *;generalize (zAe m w (k+d+1) (k+d+3)).1.length=C at *;generalize (zAe m w (k+d+1) (k+d+3)).2=D at *;clear h1 h2 h5 hf h2' hl
    (clear h3;exact zn185 h4 hk hd)
theorem zCa:∀ (m:Nat) (w:List Nat) (a i k:Nat),i≤k→zAe m w (a+i) (a+k)=((zAe m (w.drop a) i k).1,a+(zAe m (w.drop a) i k).2)
 | 0,w,a,i,k,_=>rfl
 | m+1,w,a,i,k,hk=>by
  unfold zAe;have e:w.drop (a+k)=(w.drop a).drop k:=by rw[List.drop_drop]
  rw[e];cases hf:fi 45 ((w.drop a).drop k) with
  | none=>rfl
  | some d=>
   have e2:a+k+d+1=a+(k+d+1):=by exact zn186
   have e3:a+k+d+3=a+(k+d+3):=by exact zn187
   dsimp only;rw[e2,e3,zCa m w a (k+d+1) (k+d+3) (Nat.lt_add_of_pos_right (Nat.succ_pos _))];have e4:(w.take (a+k+d)).drop (a+i)=((w.drop a).take (k+d)).drop i:=by
    rw[←List.drop_drop,List.drop_take];congr 2;exact zn189
   rw[e4]
noncomputable def zCm:List (List Nat)→List (List Nat)
 | []=>[]
 | [x]=>[x++[45]]
 | x::y::r=>x::zCm (y::r)
theorem zDl:∀ {cs:List (List Nat)} {l:List Nat},zCm (cs++[l])=cs++[l++[45]]
 | [],_=>rfl
 | [x],_=>rfl
 | x::y::cs,l=>by
  show x::zCm ((y::cs)++[l])=_;rw[zDl];rfl
noncomputable def ckOf (w:List Nat)(i k:Nat):List (List Nat):=
 if (w.drop (zAe 100000 w i k).2).isEmpty then zCm (zAe 100000 w i k).1 else (zAe 100000 w i k).1++[w.drop (zAe 100000 w i k).2]
set_option tactic.hygienic true in
theorem zId {w:List Nat}{i k:Nat}(hk:i+1≤k)(hi:i<w.length):(∀ x∈ckOf w i k,x≠[])∧ckOf w i k≠[]∧((ckOf w i k).drop 1≠[]→goodT ((ckOf w i k).drop 1))∧(ckOf w i k).flatten.length+(ckOf w i k).length≤w.length-i+2:=by
 obtain⟨h1,h2,h3,h4,h5⟩:=zCb 100000 w i k hk (Nat.le_of_lt hi);have hne:∀ x∈(zAe 100000 w i k).1,x≠[]:=fun x hx e=>by
  subst e;rcases h1 [] hx with h | h
  ·simp at h;exact zn190 hk h
  ·simp at h
 unfold ckOf;generalize (zAe 100000 w i k).1=cs at *;generalize (zAe 100000 w i k).2=i' at *;split
 ·rename_i he;have he:w.length≤i':=by simpa using he
  cases hcs:cs with
  | nil=>exact absurd (h5 hcs) (by (clear h3 h5;exact zn191 hi he))
  | cons c0 c1=>
   obtain⟨cs',l,hl⟩:∃ cs' l,cs=cs'++[l]:=⟨cs.dropLast,cs.getLast (by simp[hcs]),(List.dropLast_concat_getLast (by simp[hcs])).symm⟩
   rw[←hcs,hl,zDl];refine⟨fun x hx=>?_,by simp,fun hd=>?_,?_⟩
   ·rcases List.mem_append.mp hx with hx | hx
    ·exact hne x (by rw[hl];simp[hx])
    ·have:x=l++[45]:=by simpa using hx
     rw[this];simp
   ·cases cs' with
    | nil=>exact absurd rfl hd
    | cons z cs'=>
     show goodT (cs'++[l++[45]]);refine zFy (fun x hx=>h2 x (by rw[hl];simp[hx])) (by simp)
   ·rw[hl] at h4;simp at h4 ⊢;exact zn192 h4
 ·rename_i he;have he:i'<w.length:=by simpa using he
  refine⟨fun x hx=>?_,by simp,fun hd=>?_,?_⟩
  ·rcases List.mem_append.mp hx with hx | hx
   ·exact hne x hx
   ·have:x=w.drop i':=by simpa using hx
    rw[this];simpa using he
  ·cases cs with
   | nil=>exact absurd rfl hd
   | cons z cs'=>
    show goodT (cs'++[w.drop i']);exact zFy (fun x hx=>h2 x (by simpa using hx)) (by simpa using he)
  ·simp at h4 ⊢;exact zn193 h4
theorem zLo {w:List Nat}{a k:Nat}:ckOf w a (a+k)=ckOf (w.drop a) 0 k:=by
 have h:=zCa 100000 w a 0 k (Nat.zero_le _);rw[Nat.add_zero] at h;unfold ckOf;rw[h];dsimp only;rw[List.drop_drop]
noncomputable def escE (l:List Nat):List Nat:=subst 45 [92,45] (subst 92 [92,92] l)
noncomputable def raw (s:List Nat):List Nat:=if 45∈s then joinL [45] ((mrg (ckOf s 0 (if s.head? = some 33 then 2 else 1))).map escE) else subst 92 [92,92] s
noncomputable def wrapB (t:List Nat):List Nat:=match t with
 | []=>[40,63,33,41]
 | a::r=>if a=33 then if r=[] then [46] else 91::94::r++[93] else 91::(if a=94∨a=91 then 92::a::r else a::r)++[93]
noncomputable def bt (s:List Nat):List Nat:=wrapB (esc (raw s))
theorem zHv:∀ l:List (List Nat),strsOf (vstrs l)=some l
 | []=>rfl
 | x::r=>by
  show (strsOf (vstrs r)).map (x::·)=_;rw[zHv r];rfl
theorem zBW {c:Nat}{a b:Nat}(l:List Nat):(subst c [a,b] l).length≤2*l.length:=by
 induction l with
 | nil=>simp[subst]
 | cons d l ih=>
  have:subst c [a,b] (d::l)=(if d=c then [a,b] else [d])++subst c [a,b] l:=rfl;rw[this];split<;>simp<;>lia
theorem zLi (l:List Nat):(escE l).length≤4*l.length:=by
 unfold escE;have h1:=zBW (c:=45) (a:=92) (b:=45) (subst 92 [92,92] l);have h2:=zBW (c:=92) (a:=92) (b:=92) l;exact zn194 h1 h2
noncomputable def chF:List Nat→Option (List Nat):=fun l=>((fun l=>(some l).bind fun r=>if r.length≤100000 then some (subst 92 [92,92] r) else none) l).bind fun r=>if r.length≤100000 then some (subst 45 [92,45] r) else none
theorem chF_v {x:List Nat}(hx:x.length≤20000):chF x=some (escE x):=by
 have h2:=zBW (c:=92) (a:=92) (b:=92) x;have h3:(subst 92 [92,92] x).length≤100000:=by exact zn195 h2 hx
 have h4:x.length≤100000:=by exact zznlt hx (zznal _ _)
 unfold chF;simp only[Option.bind_some,h4,if_true,h3];rfl
theorem zHL:∀ {cs:List (List Nat)},(∀ x∈cs,x.length≤20000)→mapO chF cs=some (cs.map escE)
 | [],_=>rfl
 | x::cs,h=>by
  unfold mapO;rw[chF_v (h x (by simp)),zHL fun y hy=>h y (List.mem_cons_of_mem _ hy)];rfl
theorem zGH:∀ cs:List (List Nat),((cs.map escE).map fun l=>l.length+[45].length).sum≤4*cs.flatten.length+cs.length
 | []=>by simp
 | x::cs=>by
  have:=zGH cs;have h2:=zLi x;simp at this ⊢;exact zn197 this h2
theorem zEb:∀ {cs:List (List Nat)} {x:List Nat},x∈cs→x.length≤cs.flatten.length
 | y::cs,x,h=>by
  rw[List.flatten_cons,List.length_append];rcases List.mem_cons.mp h with rfl | h
  ·exact zznar _ _
  ·have:=zEb h;exact zznlt this (zznal _ _)
theorem zM6 {cs:List (List Nat)}(h:cs.flatten.length≤20000)(h2:cs.length≤20000):joinG [45] chF (.lst (vstrs cs))=some (.str (joinL [45] (cs.map escE))):=by
 unfold joinG;simp only[zHv,Option.bind_some];rw[zHL fun x hx=>Nat.le_trans (zEb hx) h];have:=zGH cs;simp only[Option.bind_some];rw[if_pos (zn199 this h h2)]
theorem zMG {s:List Nat}(hs:s≠[])(hl:s.length≤5000):(raw s).length≤40000:=by
 unfold raw;split
 ·have hk:∃ k,(if s.head? = some 33 then 2 else 1)=k∧0+1≤k:=by split<;>exact⟨_,rfl,by lia⟩
  refine ze12 hk fun k hk hk1=>?_;rw[hk];have hpos:0<s.length:=by cases s with | nil=>exact absurd rfl hs | cons a r=>simp
  refine ze04 (zId (w:=s) (i:=0) (k:=k) hk1 hpos) fun _ _ _ h4=>?_;have h5:=zCD (ckOf s 0 k);have h6:=zGH (mrg (ckOf s 0 k));have h7:=zCF (sep:=[45]) (ls:=(mrg (ckOf s 0 k)).map escE);have h8:=zznlt h7 h6;exact zn200 h4 h5 hl h8
 ·have:=zBW (c:=92) (a:=92) (b:=92) s;exact zn201 this hl
theorem zML {l:List Nat}{c:Nat}:(!(Builtin.Str.occurrences (ms l) (ms [c]) 0 (ms l).length 1).isEmpty)=decide (c∈l):=by
 have h:=zFp (l:=l) (c:=c) (lo:=0) (hi:=l.length) (zznlr _);have hl:(ms l).length=l.length:=by simp[Str.length]
 have hm:(ms [c]:Str)=⟨#[c]⟩:=rfl;rw[hl,hm];rw[List.take_length,List.drop_zero,zBF] at h;have hmem:fi c l=none↔c∉l:=by
  clear h hl hm
  induction l with
  | nil=>simp[fi]
  | cons d l ih=>
   unfold fi;by_cases e:d=c
   ·simp[e]
   ·simp[e,ih,Ne.symm e]
 cases ho:Builtin.Str.occurrences (ms l) ⟨#[c]⟩ 0 l.length 1 with
 | nil=>
  rw[ho] at h;cases hf:fi c l with
  | none=>simp[hmem.mp hf]
  | some m=>rw[hf] at h;simp[headI] at h
 | cons a r=>
  rw[ho] at h;cases hf:fi c l with
  | none=>rw[hf] at h;simp[headI] at h
  | some m=>
   have:c∈l:=Classical.byContradiction fun q=>by rw[hmem.mpr q] at hf;cases hf
   simp[this]
theorem zJQ {l:List Nat}{c:Nat}:inV (.str [c]) (.str l)=some (decide (c∈l)):=by
 show some _=_;rw[←zML (l:=l) (c:=c)];rfl
theorem zNb {a b c:Nat}:inV (.str [a]) (.tup [.str [b],.str [c]])=some (decide (a=b∨a=c)):=by
 show some ((pys [.str [b],.str [c]]).any fun y=>y.eqv (py (.str [a])))=_;have e1:∀ x y:List Nat,(py (.str x)).eqv (py (.str y))=decide (x=y):=zFM;simp only[pys,List.any_cons,List.any_nil,e1,Bool.or_false];congr 1;have f1:decide ([b]=[a])=decide (a=b):=by by_cases q:a=b<;>simp[q];exact fun e=>q e.symm
 have f2:decide ([c]=[a])=decide (a=c):=by by_cases q:a=c<;>simp[q];exact fun e=>q e.symm
 rw[f1,f2];by_cases q1:a=b<;>simp[q1]
section
variable {p:List Nat} {st qm:V} {res:List V} {c:Option V}
noncomputable def zJ0:SF:=(seqS (asg (s3 (nmC 0) (nmE 5) (nmE 8)) 9)
 (seqS (ifS (t2 (kS [45]) (nmC 9) ninV) (seqS (asg (bnd (nmC 9) (replV 92 [92,92])) 9)
 nilS) (seqS (zA6 (lstN kA0) 10)
 (seqS (asg (ite3 (t2 (b2 (nmC 0) (nmC 5) idxV) (kS [33]) eqV) (b2 (nmC 5) (kI 2) addV) (b2 (nmC 5) (kI 1) addV)) 11)
 (seqS (zAk 100000 zEj zCj)
 (seqS (asg (s3 (nmC 0) (nmE 5) (nmE 8)) 12)
 (seqS (ifS (tT (nmC 12)) (seqS (appS 10 (nmE 12))
 nilS) (seqS (augL 10 (negE (kI 1)) (kS [45]))
 nilS))
 (seqS (forS (r3V (b2 (bnd (nmC 10) lenV) (kI 1) subV) (kI 0) (negE (kI 1))) (tgN 11) zDa)
 (seqS (asg (bnd (nmC 10) (joinG [45] chF)) 9)
 nilS))))))))
 (seqS (asg (bnd (nmC 9) rsubV) 9)
 (seqS (asg (b2 (nmC 8) (kI 1) addV) 5)
 (seqS (ifS (notT (tT (nmC 9))) (seqS (appC 4 3 (kS [40,63,33,41]))
 nilS) (seqS (ifS (t2 (nmC 9) (kS [33]) eqV) (seqS (appC 4 3 (kS [46]))
 nilS) (seqS (ifS (t2 (b2 (nmC 9) (kI 0) idxV) (kS [33]) eqV) (seqS (asg (b2 (kS [94]) (s3 (nmC 9) (kI 1) kN) addV) 9)
 nilS) (seqS (ifS (t2 (b2 (nmC 9) (kI 0) idxV) (tupE (aCons (kS [94]) (aCons (kS [91]) kA0))) inV) (seqS (asg (b2 (kS [92]) (nmC 9) addV) 9)
 nilS) nilS)
 nilS))
 (seqS (appC 4 3 (fstrV (strE (kS [91]) (strE (fmtE (nmE 9)) (strE (kS [93]) kF0)))))
 nilS)))
 nilS))
 nilS)))))
noncomputable def zJ1:SF:=(seqS (zA6 (lstN kA0) 10)
 (seqS (asg (ite3 (t2 (b2 (nmC 0) (nmC 5) idxV) (kS [33]) eqV) (b2 (nmC 5) (kI 2) addV) (b2 (nmC 5) (kI 1) addV)) 11)
 (seqS (zAk 100000 zEj zCj)
 (seqS (asg (s3 (nmC 0) (nmE 5) (nmE 8)) 12)
 (seqS (ifS (tT (nmC 12)) (seqS (appS 10 (nmE 12))
 nilS) (seqS (augL 10 (negE (kI 1)) (kS [45]))
 nilS))
 (seqS (forS (r3V (b2 (bnd (nmC 10) lenV) (kI 1) subV) (kI 0) (negE (kI 1))) (tgN 11) zDa)
 (seqS (asg (bnd (nmC 10) (joinG [45] chF)) 9)
 nilS)))))))
theorem zKP {n:Nat}(h:n≤100000):zBd (.int (n:Int)) (.int ((0:Nat):Int)) (.int (-1))=some (down n):=by
 refine Eq.trans (if_pos ⟨by decide,by decide,by decide,by lia,by lia,by decide,by decide⟩) ?_;exact congrArg some (zIt n)
theorem zMr {i n:Int}{j s:Option V}{k cu:Option V}{cs:List (List Nat)}{l t:List Nat}{f:EF}(h:f (tη p st qm res i n c j s (some (vstrs (cs++[l]))) k cu)=some (.str t))(hz:l.length+t.length≤1000000):
  augL 10 (negE (kI 1)) f (tη p st qm res i n c j s (some (vstrs (cs++[l]))) k cu)=some (.next,tη p st qm res i n c j s (some (vstrs (cs++[l++t]))) k cu):=by
 have e3:seqIndex? (-1) (vstrs (cs++[l])).length=some cs.length:=by
  unfold seqIndex?;have h1:((-1:Int)<0)=True:=by simp
  have h2:(-1:Int)+((vstrs (cs++[l])).length:Int)=(cs.length:Nat):=by simp;exact zn48
  simp only[h1,if_true,h2];rw[if_pos (by simp;exact zn49)];simp
 have e4:(vstrs (cs++[l]))[cs.length]? = some (.str l):=by simp
 unfold augL;rw[x_m1,h];simp only[zFb,Option.bind_some,zEv,e3,e4,show iopV .Add (.str l) (.str t)=some (.str (l++t)) from i_S ⟨hz⟩,zE9];congr 2;simp
theorem zMo {i0 kn:Nat}{n:Int}{j s k cu:Option V}{ch:Option (List V)}(hi:i0<p.length)(hkn:(if p[i0]? = some 33 then 2 else 1)=kn):
  (ite3 (t2 (b2 (nmC 0) (nmC 5) idxV) (kS [33]) eqV) (b2 (nmC 5) (kI 2) addV) (b2 (nmC 5) (kI 1) addV)) (tη p st qm res i0 n c j s ch k cu)=some (.int ((i0+kn:Nat):Int)):=by
 have e:p[i0]? = some p[i0]:=zzlge hi;have ht:(t2 (b2 (nmC 0) (nmC 5) idxV) (kS [33]) eqV) (tη p st qm res i0 n c j s ch k cu)=some (decide (p[i0]=33)):=x_t2 (x_b2 (x_nmC ⟨rfl⟩) (x_nmC ⟨rfl⟩) (zAZ ⟨e⟩)) x_kS o_eq1;subst hkn;rw[e];by_cases q:p[i0]=33
 ·rw[if_pos (by rw[q])];exact zBA ht (zzdet q) (x_b2 (x_nmC ⟨rfl⟩) x_k2 zAm)
 ·rw[if_neg (fun h=>q (Option.some.inj h))];exact zBn ht (zzdef q) (x_b2 (x_nmC ⟨rfl⟩) x_k1 zAm)
theorem zKC {i0 jn:Nat}{s:Option V}{ch:Option (List V)}{k cu:Option V}(hj:jn≤p.length)(hi:i0<jn)(hp:p.length≤5000):
  ∃ i' ch' k' cu',zJ1 (tη p st qm res i0 p.length c (some (.int jn)) s ch k cu) =
   some (.next,tη p st qm res (i':Int) p.length c (some (.int jn)) (some (.str (joinL [45] ((mrg (ckOf ((p.take jn).drop i0) 0 (if ((p.take jn).drop i0).head? = some 33 then 2 else 1))).map escE)))) ch' k' cu'):=by
 have hlen:(p.take jn).length=jn:=List.length_take_of_le hj
 have hh:((p.take jn).drop i0).head? = p[i0]?:=by
  rw[List.head?_drop,List.getElem?_take,if_pos hi]
 obtain⟨kn,hkn,hk1,hk2⟩:∃ kn,(if p[i0]? = some 33 then 2 else 1)=kn∧1≤kn∧kn≤2:=by split<;>exact⟨_,rfl,by decide,by decide⟩
 have hsh:=zLo (w:=p.take jn) (a:=i0) (k:=kn);obtain⟨s1,s2,s3,s4⟩:=zId (w:=p.take jn) (i:=i0) (k:=i0+kn) (Nat.add_le_add_left hk1 i0) (by rw[hlen];exact hi);rw[hh,hkn,←hsh];have hsp:=zIY (st:=st) (qm:=qm) (res:=res) (c:=c) (s:=s) (cu:=cu) hj hp 100000 i0 (i0+kn) [] (zn202 hp hj) (by simp;exact zn203 hp hj);rw[List.nil_append] at hsp;generalize hcs:(zAe 100000 (p.take jn) i0 (i0+kn)).1=cs at *;generalize hi':(zAe 100000 (p.take jn) i0 (i0+kn)).2=i' at *;have hck:ckOf (p.take jn) i0 (i0+kn)=if ((p.take jn).drop i').isEmpty then zCm cs else cs++[(p.take jn).drop i']:=by unfold ckOf;rw[hcs,hi']
 generalize ckOf (p.take jn) i0 (i0+kn)=C at *;generalize hU:(p.take jn).drop i'=U at *;rw[hlen] at s4;have hlast:ifS (tT (nmC 12)) (seqS (appS 10 (nmE 12)) nilS) (seqS (augL 10 (negE (kI 1)) (kS [45])) nilS) (tη p st qm res i' p.length c (some (.int jn)) s (some (vstrs cs)) (some (.int (-1))) (some (.str U))) =
   some (.next,tη p st qm res i' p.length c (some (.int jn)) s (some (vstrs C)) (some (.int (-1))) (some (.str U))):=by
  have ht:(tT (nmC 12)) (tη p st qm res i' p.length c (some (.int jn)) s (some (vstrs cs)) (some (.int (-1))) (some (.str U)))=some (!U.isEmpty):=x_tT (x_nmC ⟨rfl⟩) zLG;by_cases he:U.isEmpty=true
  ·rw[if_pos he] at hck;obtain⟨cs',l,rfl⟩:∃ cs' l,cs=cs'++[l]:=by
    cases cs with
    | nil=>exact absurd (by rw[hck];rfl) s2
    | cons a r=>exact⟨(a::r).dropLast,(a::r).getLast (by simp),(List.dropLast_concat_getLast (by simp)).symm⟩
   rw[zDl] at hck;subst hck;exact zAi ht (by rw[he];rfl) (s_seq (zMr x_kS (by simp at s4 ⊢;exact zn204 s4 hj hp)) (s_nil ⟨rfl⟩))
  ·have he':U.isEmpty=false:=by simpa using he
   rw[if_neg he] at hck;subst hck;refine zAs ht (by rw[he'];rfl) (s_seq (zLz (v:=.str U) (x_nmE ⟨rfl⟩) ?_) (s_nil ⟨?_⟩))
   ·have:sizeLine=16777216:=rfl;simp at s4 ⊢;exact zn205 s4 hj hp this
   ·rw[show vstrs (cs++[U])=vstrs cs++[.str U] from List.map_append]
 obtain⟨A,x,hA⟩:∃ A x,C=A++[x]:=⟨C.dropLast,C.getLast s2,(List.dropLast_concat_getLast s2).symm⟩
 have hmm:mrg [x]=[x]:=rfl
 obtain⟨k',hk'⟩:=zI1 (p:=p) (st:=st) (qm:=qm) (res:=res) (i:=i') (n:=p.length) (c:=c) (j:=some (.int jn)) (s:=s) (cu:=some (.str U)) A.length A [x] (some (.int (-1))) rfl (by simp) (fun hne=>by
   have:=s3 (by rw[hA];cases A with | nil=>exact absurd rfl hne | cons a r=>simp);rw[hA] at this;cases A with
   | nil=>exact absurd rfl hne
   | cons a r=>simpa using this) (fun a ha=>s1 a (by rw[hA];simp[ha])) (by rw[←hA];exact zn206 s4 hj hp)
 rw[hmm,←hA] at hk';have hL:(vstrs C).length-1=A.length:=by rw[hA];simp
 have hCl:1≤(vstrs C).length:=by rw[hA];simp
 have hrg:(r3V (b2 (bnd (nmC 10) lenV) (kI 1) subV) (kI 0) (negE (kI 1))) (tη p st qm res i' p.length c (some (.int jn)) s (some (vstrs C)) (some (.int (-1))) (some (.str U)))=some (down A.length):=by
  rw[←hL];exact x_r3 (x_b2 (x_bnd (x_nmC ⟨rfl⟩) zD8) x_k1 (zJu ⟨hCl⟩)) x_k0 x_m1 (zKP (by simp;exact zn207 s4 hj hp))
 have hmt:=zCD C;refine⟨i',some (vstrs (mrg C)),k',some (.str U),?_⟩;unfold zJ1;refine s_seq (zMq (x:=vstrs []) (zCo x_kA0 ⟨by simp⟩)) (s_seq (zFa (zMo (zznlv hi hj) hkn)) (s_seq hsp (s_seq (zMp (x:=.str U) ?_) (s_seq hlast (s_seq ((zLX hrg).trans hk') (s_seq (zEE (x_bnd (x_nmC ⟨rfl⟩) (zM6 (zn208 s4 hmt hj hp) (zn209 s4 hmt hj hp)))) (s_nil ⟨rfl⟩)))))));rw[←hU];exact x_s3 (x_nmC ⟨rfl⟩) (x_nmE ⟨rfl⟩) (x_nmE ⟨rfl⟩) o_slS
noncomputable def zJZ:SF:=(seqS (ifS (notT (tT (nmC 9))) (seqS (appC 4 3 (kS [40,63,33,41]))
 nilS) (seqS (ifS (t2 (nmC 9) (kS [33]) eqV) (seqS (appC 4 3 (kS [46]))
 nilS) (seqS (ifS (t2 (b2 (nmC 9) (kI 0) idxV) (kS [33]) eqV) (seqS (asg (b2 (kS [94]) (s3 (nmC 9) (kI 1) kN) addV) 9)
 nilS) (seqS (ifS (t2 (b2 (nmC 9) (kI 0) idxV) (tupE (aCons (kS [94]) (aCons (kS [91]) kA0))) inV) (seqS (asg (b2 (kS [92]) (nmC 9) addV) 9)
 nilS) nilS)
 nilS))
 (seqS (appC 4 3 (fstrV (strE (kS [91]) (strE (fmtE (nmE 9)) (strE (kS [93]) kF0)))))
 nilS)))
 nilS))
 nilS)
theorem t_put {i n:Int}{j k cu:Option V}{ch:Option (List V)}{t z:List Nat}{r:Option (Out×List Slot)}(hr:res.length<sizeLine)(hz:z.length≤90000)(ht:t=91::z++[93])(h:some (.next,tη p st qm (res++[.str t]) i n c j (some (.str z)) ch k cu)=r):
  seqS (appC 4 3 (fstrV (strE (kS [91]) (strE (fmtE (nmE 9)) (strE (kS [93]) kF0))))) nilS (tη p st qm res i n c j (some (.str z)) ch k cu)=r:=by
 subst ht;have e:(91::z++[93]:List Nat)=[91]++(z++([93]++[])):=by simp
 refine s_seq (t_app (v:=.str (91::z++[93])) ?_ hr) (s_nil ⟨h⟩);rw[e];exact zIJ (zCn x_kS (zCn (x_fmt (x_nmE ⟨rfl⟩)) (zCn x_kS x_kF0))) ⟨by simp;exact zznlt hz (zznal _ _)⟩
theorem zNN {i n:Int}{j k cu:Option V}{ch:Option (List V)}{t:List Nat}(hr:res.length<sizeLine)(hl:t.length≤80000):
  ∃ s',zJZ (tη p st qm res i n c j (some (.str t)) ch k cu)=some (.next,tη p st qm (res++[.str (wrapB t)]) i n c j s' ch k cu):=by
 unfold zJZ;have h0:(notT (tT (nmC 9))) (tη p st qm res i n c j (some (.str t)) ch k cu)=some (!!t.isEmpty):=zII (x_tT (x_nmC ⟨rfl⟩) zLG);cases t with
 | nil=>exact⟨_,s_seq (zAs h0 rfl (s_seq (t_app (v:=.str [40,63,33,41]) x_kS hr) (s_nil ⟨rfl⟩))) (s_nil ⟨rfl⟩)⟩
 | cons a r=>
  have h1:(t2 (nmC 9) (kS [33]) eqV) (tη p st qm res i n c j (some (.str (a::r))) ch k cu)=some (decide (a::r=[33])):=x_t2 (x_nmC ⟨rfl⟩) x_kS o_eqS;by_cases h33:a::r=[33]
  ·refine⟨some (.str (a::r)),s_seq (zAi h0 rfl (s_seq (zAs h1 (zzdet h33) (s_seq (t_app (v:=.str [46]) x_kS hr) (s_nil ⟨rfl⟩))) (s_nil ⟨rfl⟩))) (s_nil ⟨?_⟩)⟩;rw[h33];rfl
  ·have g0:(a::r)[0]? = some a:=rfl;have hc:(b2 (nmC 9) (kI 0) idxV) (tη p st qm res i n c j (some (.str (a::r))) ch k cu)=some (.str [a]):=x_b2 (x_nmC ⟨rfl⟩) x_k0 (zAZ ⟨g0⟩);have h2:(t2 (b2 (nmC 9) (kI 0) idxV) (kS [33]) eqV) (tη p st qm res i n c j (some (.str (a::r))) ch k cu)=some (decide (a=33)):=x_t2 hc x_kS o_eq1;have hrl:r.length≤80000:=by simp at hl;exact Nat.le_succ_of_le hl
   have hgo:∀ {z:List Nat},z.length≤90000→wrapB (a::r)=91::z++[93]→ifS (t2 (b2 (nmC 9) (kI 0) idxV) (kS [33]) eqV) (seqS (asg (b2 (kS [94]) (s3 (nmC 9) (kI 1) kN) addV) 9)
     nilS) (seqS (ifS (t2 (b2 (nmC 9) (kI 0) idxV) (tupE (aCons (kS [94]) (aCons (kS [91]) kA0))) inV) (seqS (asg (b2 (kS [92]) (nmC 9) addV) 9) nilS) nilS) nilS) (tη p st qm res i n c j (some (.str (a::r))) ch k cu)=some (.next,tη p st qm res i n c j (some (.str z)) ch k cu)→
     ∃ s',zJZ (tη p st qm res i n c j (some (.str (a::r))) ch k cu)=some (.next,tη p st qm (res++[.str (wrapB (a::r))]) i n c j s' ch k cu):=fun hz hw hm=>
    ⟨_,s_seq (zAi h0 rfl (s_seq (zAi h1 (zzdef h33) (s_seq hm (t_put hr hz hw rfl))) (s_nil ⟨rfl⟩))) (s_nil ⟨rfl⟩)⟩
   by_cases ha:a=33
   ·have hr0:r≠[]:=fun e=>h33 (by rw[ha,e]);refine hgo (z:=[94]++r) (by simp;exact zznlt hrl (zznal _ _)) (by simp[wrapB,ha,hr0]) (zAs h2 (zzdet ha) (s_seq (zEE (x:=.str ([94]++r)) (x_b2 x_kS (x_s3 (x_nmC ⟨rfl⟩) x_k1 x_kN zD7) (zJx ⟨by simp;exact zn212 hrl⟩))) (s_nil ⟨rfl⟩)))
   ·have hin:(t2 (b2 (nmC 9) (kI 0) idxV) (tupE (aCons (kS [94]) (aCons (kS [91]) kA0))) inV) (tη p st qm res i n c j (some (.str (a::r))) ch k cu)=some (decide (a=94∨a=91)):=x_t2 hc (x_tup (zAb x_kS (zAb x_kS x_kA0)) ⟨by simp⟩) zNb;by_cases hb:a=94∨a=91
    ·exact hgo (z:=[92]++(a::r)) (by simp;exact zznlt hrl (zznal _ _)) (by simp[wrapB,ha,hb]) (zAi h2 (zzdef ha) (s_seq (zAs hin (zzdet hb) (s_seq (zEE (x:=.str ([92]++(a::r))) (x_b2 x_kS (x_nmC ⟨rfl⟩) (zJx ⟨by simp;exact zn214 hrl⟩))) (s_nil ⟨rfl⟩))) (s_nil ⟨rfl⟩)))
    ·exact hgo (z:=a::r) (by simp;exact zznlt hrl (zznal _ _)) (by simp[wrapB,ha,hb]) (zAi h2 (zzdef ha) (s_seq (zAi hin (zzdef hb) (s_nil ⟨rfl⟩)) (s_nil ⟨rfl⟩)))
theorem zI2 {i0 jn:Nat}{s:Option V}{ch:Option (List V)}{k cu:Option V}(hj:jn≤p.length)(hi:i0<jn)(hp:p.length≤5000)(hr:res.length<100000):
  ∃ s' ch' k' cu',zJ0 (tη p st qm res i0 p.length c (some (.int jn)) s ch k cu) =
   some (.next,tη p st qm (res++[.str (bt ((p.take jn).drop i0))]) ((jn+1:Nat):Int) p.length c (some (.int jn)) s' ch' k' cu'):=by
 have hlen:(p.take jn).length=jn:=List.length_take_of_le hj;have hch:=zKC (st:=st) (qm:=qm) (res:=res) (c:=c) (s:=some (.str ((p.take jn).drop i0))) (ch:=ch) (k:=k) (cu:=cu) hj hi hp;have hul:((p.take jn).drop i0).length=jn-i0:=by rw[List.length_drop,hlen]
 have hs9:(s3 (nmC 0) (nmE 5) (nmE 8)) (tη p st qm res i0 p.length c (some (.int jn)) s ch k cu)=some (.str ((p.take jn).drop i0)):=x_s3 (x_nmC ⟨rfl⟩) (x_nmE ⟨rfl⟩) (x_nmE ⟨rfl⟩) o_slS;generalize (p.take jn).drop i0=u at *;have hune:u≠[]:=fun e=>absurd (Nat.sub_pos_of_lt hi) (by rw[←hul,e];exact Nat.lt_irrefl 0);have hu5:u.length≤5000:=by rw[hul];exact zznlt (Nat.sub_le _ _) (zznlt hj hp)
 have hraw:=zMG hune hu5;have ht:(t2 (kS [45]) (nmC 9) ninV) (tη p st qm res i0 p.length c (some (.int jn)) (some (.str u)) ch k cu)=some (!decide (45∈u)):=x_t2 x_kS (x_nmC ⟨rfl⟩) (o_nin zJQ)
 have hmid:∃ (i':Int) (ch':Option (List V)) (k' cu':Option V),ifS (t2 (kS [45]) (nmC 9) ninV) (seqS (asg (bnd (nmC 9) (replV 92 [92,92])) 9) nilS) zJ1 (tη p st qm res i0 p.length c (some (.int jn)) (some (.str u)) ch k cu) =
   some (.next,tη p st qm res i' p.length c (some (.int jn)) (some (.str (raw u))) ch' k' cu'):=by
  unfold raw;by_cases hm:45∈u
  ·refine ze41 hch fun i' ch' k' cu' h=>?_;clear hch;rw[if_pos hm];exact⟨i',ch',k',cu',zAi ht (by rw[decide_eq_true hm];rfl) h⟩
  ·rw[if_neg hm];have hrp:replV 92 [92,92] (.str u)=some (.str (subst 92 [92,92] u)):=if_pos (zznlt hu5 (by decide));exact⟨i0,ch,k,cu,zAs ht (by rw[decide_eq_false hm];rfl) (s_seq (zEE (x_bnd (x_nmC ⟨rfl⟩) hrp)) (s_nil ⟨rfl⟩))⟩
 refine ze41 hmid fun i' ch' k' cu' hmid=>?_;have hel:(esc (raw u)).length≤80000:=zznlt (zHd (raw u)) (Nat.mul_le_mul_left 2 hraw);have hes:rsubV (.str (raw u))=some (.str (esc (raw u))):=if_pos (zznlt hraw (by decide));obtain⟨s',hw⟩:=zNN (p:=p) (st:=st) (qm:=qm) (res:=res) (c:=c) (i:=((jn+1:Nat):Int)) (n:=p.length) (j:=some (.int jn)) (ch:=ch') (k:=k') (cu:=cu') (Nat.lt_trans hr (by decide)) hel;exact⟨s',ch',k',cu',s_seq (zEE hs9) (s_seq hmid (s_seq (zEE (x_bnd (x_nmC ⟨rfl⟩) hes)) (s_seq (zIZ (x:=((jn+1:Nat):Int)) (x_b2 (x_nmC ⟨rfl⟩) x_k1 zAm)) hw)))⟩
end
noncomputable def zAp (u:List Nat):Option Nat:=
 let b1:=if u[0]? = some 33 then 1 else 0
 let b2:=if u[b1]? = some 93 then b1+1 else b1
 (fi 93 (u.drop b2)).map (·+b2)
theorem zDf {u:List Nat}{j:Nat}(h:zAp u=some j):j<u.length:=by
 unfold zAp at h;refine ze12 (Option.map_eq_some_iff.mp h) fun m hm z4=>?_;subst z4;have:=(fi_lt hm).1;rw[List.length_drop] at this;exact Nat.add_lt_of_lt_sub this
noncomputable def objOf:V→Option Nat
 | .obj m=>some m
 | _=>none
theorem zJt {x:V}{m:Nat}(h:objOf x=some m):x=.obj m:=by
 cases x with
 | obj n=>rw[Option.some.inj h]
 | _=>exact noneE h
noncomputable def sameV (x y:V):Bool:=(objOf x).any fun m=>(objOf y).any fun n=>decide (m=n)
noncomputable def zAL (st:V)(res:List V):Bool:=res.getLast?.any fun v=>sameV v st
theorem zEd {st v:V}{R:List V}:zAL st (R++[v])=sameV v st:=by
 unfold zAL;rw[List.getLast?_concat];rfl
noncomputable def zCr (st qm:V)(c:Nat)(u:List Nat)(res:List V):List Nat×List V:=
 if c=42 then (u,if zAL st res then res else res++[st])
 else if c=63 then (u,res++[qm])
 else if c=91 then match zAp u with
  | some j=>(u.drop (j+1),res++[.str (bt (u.take j))])
  | none=>(u,res++[.str [92,91]])
 else (u,res++[.str (zAX specials c)])
noncomputable def trFu (st qm:V)(n:Nat):List Nat→List V→List V:=
 n.rec (fun _ res=>res) fun _ go u res=>match u with
  | []=>res
  | c::u=>go (zCr st qm c u res).1 (zCr st qm c u res).2
noncomputable def trGo (st qm:V)(u:List Nat)(res:List V):List V:=trFu st qm u.length u res
theorem zF2 {st qm:V}{c:Nat}{u:List Nat}{res:List V}:(zCr st qm c u res).1.length≤u.length:=by
 unfold zCr;split
 ·exact zznlr _
 split
 ·exact zznlr _
 split
 ·split
  ·rw[List.length_drop];exact Nat.sub_le _ _
  ·exact zznlr _
 ·exact zznlr _
theorem zMl {st qm:V}(n:Nat):∀ (u:List Nat) (res:List V),u.length≤n→trFu st qm n u res=trGo st qm u res:=by
 induction n using Nat.strongRecOn with
 | _ n ih=>
  intro u res h;cases u with
  | nil=>cases n<;>rfl
  | cons c u=>
   cases n with
   | zero=>exact absurd h (Nat.not_succ_le_zero _)
   | succ n=>
    have hn:u.length≤n:=Nat.le_of_succ_le_succ h;have hs:=zF2 (st:=st) (qm:=qm) (c:=c) (u:=u) (res:=res);have e1:=ih n (Nat.lt_succ_self n) _ (zCr st qm c u res).2 (zznlt hs hn);have e2:=ih u.length (Nat.lt_succ_of_le hn) _ (zCr st qm c u res).2 hs;exact Eq.trans e1 e2.symm
theorem zBj {st qm:V}{res:List V}:trGo st qm [] res=res:=rfl
theorem zAx {st qm:V}{c:Nat}{u:List Nat}{res:List V}:trGo st qm (c::u) res =
  if c=42 then trGo st qm u (if zAL st res then res else res++[st])
  else if c=63 then trGo st qm u (res++[qm])
  else if c=91 then match zAp u with
   | some j=>trGo st qm (u.drop (j+1)) (res++[.str (bt (u.take j))])
   | none=>trGo st qm u (res++[.str [92,91]])
  else trGo st qm u (res++[.str (zAX specials c)]):=by
 have e:trGo st qm (c::u) res=trGo st qm (zCr st qm c u res).1 (zCr st qm c u res).2:=zMl u.length _ _ zF2;refine e.trans ?_;unfold zCr;split
 ·rfl
 split
 ·rfl
 split
 ·split
  ·rfl
  ·rfl
 ·rfl
noncomputable def zH1:SF:=(seqS (asg (b2 (nmC 0) (nmC 5) idxV) 7)
 (seqS (asg (b2 (nmC 5) (kI 1) addV) 5)
 (seqS (ifS (t2 (nmC 7) (kS [42]) eqV) (seqS (ifS (tOr (notT (tT (nmC 3))) (tOr (t2 (b2 (nmC 3) (negE (kI 1)) idxV) (nmC 1) zDv) (kT false))) (seqS (appC 4 3 (nmE 1))
 nilS) nilS)
 nilS) (seqS (ifS (t2 (nmC 7) (kS [63]) eqV) (seqS (appC 4 3 (nmE 2))
 nilS) (seqS (ifS (t2 (nmC 7) (kS [91]) eqV) (seqS (asg (nmE 5) 8)
 (seqS (ifS (tAnd (t2 (nmC 8) (nmC 6) ltV) (tAnd (t2 (b2 (nmC 0) (nmC 8) idxV) (kS [33]) eqV) (kT true))) (seqS (asg (b2 (nmC 8) (kI 1) addV) 8)
 nilS) nilS)
 (seqS (ifS (tAnd (t2 (nmC 8) (nmC 6) ltV) (tAnd (t2 (b2 (nmC 0) (nmC 8) idxV) (kS [93]) eqV) (kT true))) (seqS (asg (b2 (nmC 8) (kI 1) addV) 8)
 nilS) nilS)
 (seqS (zAk 100000 zCi zEk)
 (seqS (ifS (t2 (nmC 8) (nmC 6) geV) (seqS (appC 4 3 (kS [92,91]))
 nilS) zJ0)
 nilS))))) (seqS (appC 4 3 (bndL (aCons (nmE 7) kA0) zEn))
 nilS))
 nilS))
 nilS))
 nilS)))
section
variable {p:List Nat} {st qm:V} {res:List V} {c j s:Option V} {ch:Option (List V)} {k cu:Option V}
theorem t_opt {a x:Nat}(hp:p.length≤5000){i:Int}:
  ifS (tAnd (t2 (nmC 8) (nmC 6) ltV) (tAnd (t2 (b2 (nmC 0) (nmC 8) idxV) (kS [x]) eqV) (kT true))) (seqS (asg (b2 (nmC 8) (kI 1) addV) 8) nilS) nilS (tη p st qm res i p.length c (some (.int a)) s ch k cu) =
   some (.next,tη p st qm res i p.length c (some (.int ((if p[a]? = some x then a+1 else a:Nat):Int))) s ch k cu):=by
 by_cases hl:a<p.length
 ·have e:p[a]? = some p[a]:=zzlge hl
  have ht:(tAnd (t2 (nmC 8) (nmC 6) ltV) (tAnd (t2 (b2 (nmC 0) (nmC 8) idxV) (kS [x]) eqV) (kT true))) (tη p st qm res i p.length c (some (.int a)) s ch k cu)=some (decide (a<p.length)&&(decide (p[a]=x)&&true)):=
   x_and (x_t2 (x_nmC ⟨rfl⟩) (x_nmC ⟨rfl⟩) o_ltN) (x_and (x_t2 (x_b2 (x_nmC ⟨rfl⟩) (x_nmC ⟨rfl⟩) (zAZ ⟨e⟩)) x_kS o_eq1) x_kT)
  rw[e];by_cases hx:p[a]=x
  ·rw[if_pos (by rw[hx])];exact zAs ht (by rw[decide_eq_true hl,decide_eq_true hx];rfl) (s_seq (zHs (x:=.int ((a+1:Nat):Int)) (x_b2 (x_nmC ⟨rfl⟩) x_k1 zAm)) (s_nil ⟨rfl⟩))
  ·rw[if_neg (fun h=>hx (Option.some.inj h))];exact zAi ht (by rw[decide_eq_false hx];simp) (s_nil ⟨rfl⟩)
 ·rw[if_neg (by rw[List.getElem?_eq_none (Nat.le_of_not_lt hl)];simp)];exact s_ifF (zHo (x_t (x_t2 (x_nmC ⟨rfl⟩) (x_nmC ⟨rfl⟩) o_ltN) (zzdef hl))) (s_nil ⟨rfl⟩)
set_option tactic.hygienic true in
theorem bnd1 {p:List Nat}{i b1:Nat}(hi:i<p.length)(hb1:(if p[i+1]? = some 33 then i+1+1 else i+1)=b1):i+1≤b1∧b1≤p.length:=by
 rw[←hb1];split
 ·rename_i h;exact⟨Nat.le_succ _,(List.getElem?_eq_some_iff.mp h).1⟩
 ·exact⟨zznlr _,hi⟩
set_option tactic.hygienic true in
theorem bnd2 {p:List Nat}{b1 bb:Nat}(hi:b1≤p.length)(hb2:(if p[b1]? = some 93 then b1+1 else b1)=bb):b1≤bb∧bb≤p.length:=by
 rw[←hb2];split
 ·rename_i h;exact⟨Nat.le_succ _,(List.getElem?_eq_some_iff.mp h).1⟩
 ·exact⟨zznlr _,hi⟩
theorem zIb {p:List Nat}{i b1 bb:Nat}(hb1:(if p[i+1]? = some 33 then i+1+1 else i+1)=b1)(hb2:(if p[b1]? = some 93 then b1+1 else b1)=bb)(h1:i+1≤b1)(h2:b1≤bb):
  zAp (p.drop (i+1))=(fi 93 (p.drop bb)).map (·+(bb-(i+1))):=by
 unfold zAp;have g0:(p.drop (i+1))[0]? = p[i+1]?:=by rw[List.getElem?_drop]
 rw[g0];have e1:(if p[i+1]? = some 33 then 1 else 0)=b1-(i+1):=by
  rw[←hb1];split
  ·exact(Nat.add_sub_cancel_left ..).symm
  ·exact(Nat.sub_self _).symm
 dsimp only;rw[e1];have g1:(p.drop (i+1))[b1-(i+1)]? = p[b1]?:=by rw[List.getElem?_drop,Nat.add_sub_cancel' h1]
 rw[g1];have e2:(if p[b1]? = some 93 then b1-(i+1)+1 else b1-(i+1))=bb-(i+1):=by
  rw[←hb2];split
  ·exact(Nat.sub_add_comm h1).symm
  ·rfl
 rw[e2,List.drop_drop,Nat.add_sub_cancel' (Nat.le_trans h1 h2)]
theorem zLn {p:List Nat}{i b1 bb m:Nat}(h1:i+1≤b1)(h2:b1≤bb)(hb2:(if p[b1]? = some 93 then b1+1 else b1)=bb)(hf:fi 93 (p.drop bb)=some m):bb+m<p.length∧i+1<bb+m:=by
 have hm:=fi_lt hf;refine⟨by have:=hm.1;rw[List.length_drop] at this;exact Nat.add_lt_of_lt_sub' this,?_⟩;by_cases q:bb=i+1
 ·have qb:b1=i+1:=by exact zn216 h1 h2 q
  have q93:p[i+1]?≠some 93:=fun h9=>by rw[qb,if_pos h9] at hb2;(clear h2;exact zn217 hb2 q)
  have hm2:=hm.2;rw[q,List.getElem?_drop] at hm2;cases m with
  | zero=>exact absurd hm2 q93
  | succ m=>(clear hf hm;exact zn218 q)
 ·exact zn219 h1 h2 q
structure ResOk (st:V)(res:List V)(i:Nat):Prop where
 len:res.length≤i
 is:∀ v∈res,isV v st=some (sameV v st)
theorem ResOk.more {i i':Nat}(h:ResOk st res i)(hi:i<i'){v:V}(hv:isV v st=some (sameV v st)):ResOk st (res++[v]) i' where
 len:=by rw[List.length_append];exact zznlt (zznss h.len) hi
 is:=fun w hw=>by
  rcases List.mem_append.mp hw with hw | hw
  ·exact h.is w hw
  ·rw[List.mem_singleton.mp hw];exact hv
theorem zLy (hinv:∀ v∈res,isV v st=some (sameV v st)){i n:Int}:(tOr (notT (tT (nmC 3))) (tOr (t2 (b2 (nmC 3) (negE (kI 1)) idxV) (nmC 1) zDv) (kT false))) (tη p st qm res i n c j s ch k cu)=some (!zAL st res):=by
 have h0:(notT (tT (nmC 3))) (tη p st qm res i n c j s ch k cu)=some (!!res.isEmpty):=zII (x_tT (x_nmC ⟨rfl⟩) zOa);unfold zAL;cases hg:res.getLast? with
 | none=>
  have:res=[]:=List.getLast?_eq_none_iff.mp hg;exact x_orT (x_t h0 (by rw[this];rfl))
 | some v=>
  have hne:res≠[]:=fun e=>by rw[e] at hg;cases hg
  have he:res.isEmpty=false:=by simpa using hne
  refine x_orF (x_t h0 (by rw[he];rfl)) (x_t (x_or (x_t2 (x_b2 (x_nmC ⟨rfl⟩) x_m1 (zMP ⟨hg⟩)) (x_nmC ⟨rfl⟩) (zFq (hinv v (List.mem_of_getLast? hg)))) x_kT) (Bool.or_false _))
noncomputable def zLU:SF:=(seqS (asg (nmE 5) 8)
 (seqS (ifS (tAnd (t2 (nmC 8) (nmC 6) ltV) (tAnd (t2 (b2 (nmC 0) (nmC 8) idxV) (kS [33]) eqV) (kT true))) (seqS (asg (b2 (nmC 8) (kI 1) addV) 8)
 nilS) nilS)
 (seqS (ifS (tAnd (t2 (nmC 8) (nmC 6) ltV) (tAnd (t2 (b2 (nmC 0) (nmC 8) idxV) (kS [93]) eqV) (kT true))) (seqS (asg (b2 (nmC 8) (kI 1) addV) 8)
 nilS) nilS)
 (seqS (zAk 100000 zCi zEk)
 (seqS (ifS (t2 (nmC 8) (nmC 6) geV) (seqS (appC 4 3 (kS [92,91]))
 nilS) zJ0)
 nilS)))))
theorem zNT {i:Nat}(hi:i<p.length)(hp:p.length≤5000)(hr:res.length<sizeLine)(h:zAp (p.drop (i+1))=none):
  ∃ j',zLU (tη p st qm res ((i+1:Nat):Int) p.length c j s ch k cu)=some (.next,tη p st qm (res++[.str [92,91]]) ((i+1:Nat):Int) p.length c j' s ch k cu):=by
 obtain⟨b1,hb1⟩:∃ b1,(if p[i+1]? = some 33 then i+1+1 else i+1)=b1:=⟨_,rfl⟩
 obtain⟨bb,hb2⟩:∃ bb,(if p[b1]? = some 93 then b1+1 else b1)=bb:=⟨_,rfl⟩
 have hb1l:=bnd1 hi hb1;have hb2l:=bnd2 hb1l.2 hb2;rw[zIb hb1 hb2 hb1l.1 hb2l.1] at h;have hsc:=zI0 (p:=p) (st:=st) (qm:=qm) (res:=res) (i:=((i+1:Nat):Int)) (c:=c) (s:=s) (ch:=ch) (k:=k) (cu:=cu) 100000 bb (by (clear hb2l;exact zn53 hp)) hb2l.2;have hs1:scan p bb=p.length:=by unfold scan;rw[Option.map_eq_none_iff.mp h]
 rw[hs1] at hsc;refine⟨_,s_seq (zHs (x_nmE ⟨rfl⟩)) (s_seq (t_opt hp) (s_seq (by rw[hb1];exact t_opt hp) (s_seq (by rw[hb2];exact hsc) (s_seq (zAs (x_t2 (x_nmC ⟨rfl⟩) (x_nmC ⟨rfl⟩) (o_ge o_leN)) (zzdet (zznlr _)) (s_seq (t_app (v:=.str [92,91]) x_kS hr) (s_nil ⟨rfl⟩))) (s_nil ⟨rfl⟩)))))⟩
theorem zNR {i d:Nat}(hi:i<p.length)(hp:p.length≤5000)(hr:res.length<100000)(h:zAp (p.drop (i+1))=some d):
  ∃ (j' s':Option V) (ch':Option (List V)) (k' cu':Option V),zLU (tη p st qm res ((i+1:Nat):Int) p.length c j s ch k cu)=some (.next,tη p st qm (res++[.str (bt ((p.drop (i+1)).take d))]) ((i+1+d+1:Nat):Int) p.length c j' s' ch' k' cu'):=by
 obtain⟨b1,hb1⟩:∃ b1,(if p[i+1]? = some 33 then i+1+1 else i+1)=b1:=⟨_,rfl⟩
 obtain⟨bb,hb2⟩:∃ bb,(if p[b1]? = some 93 then b1+1 else b1)=bb:=⟨_,rfl⟩
 have hb1l:=bnd1 hi hb1;have hb2l:=bnd2 hb1l.2 hb2;rw[zIb hb1 hb2 hb1l.1 hb2l.1] at h;refine ze12 (Option.map_eq_some_iff.mp h) fun m hm hd=>?_;refine ze02 (zLn hb1l.1 hb2l.1 hb2 hm) fun hml hij=>?_;have hsc:=zI0 (p:=p) (st:=st) (qm:=qm) (res:=res) (i:=((i+1:Nat):Int)) (c:=c) (s:=s) (ch:=ch) (k:=k) (cu:=cu) 100000 bb (zn53 hp) hb2l.2;have hs1:scan p bb=i+1+d:=by unfold scan;rw[hm];lia
 rw[hs1] at hsc;obtain⟨s',ch',k',cu',hM⟩:=zI2 (p:=p) (st:=st) (qm:=qm) (res:=res) (c:=c) (i0:=i+1) (jn:=i+1+d) (s:=s) (ch:=ch) (k:=k) (cu:=cu) (zn220 hb1l hb2l hml hd) (by (clear hsc;exact zn221 hd hij)) hp hr;have htk:(p.take (i+1+d)).drop (i+1)=(p.drop (i+1)).take d:=by rw[List.drop_take,Nat.add_sub_cancel_left]
 rw[htk] at hM;refine⟨_,s',ch',k',cu',s_seq (zHs (x_nmE ⟨rfl⟩)) (s_seq (t_opt hp) (s_seq (by rw[hb1];exact t_opt hp) (s_seq (by rw[hb2];exact hsc) (s_seq (zAi (x_t2 (x_nmC ⟨rfl⟩) (x_nmC ⟨rfl⟩) (o_ge o_leN)) (zzdef (zn222 hb1l hb2l hml hd)) hM) (s_nil ⟨rfl⟩)))))⟩
theorem zMn {i:Nat}(hi:i<p.length)(hp:p.length≤5000){a:Nat}(hst:st=.obj a)(hq:isV qm st=some (sameV qm st))(hR:ResOk st res i):
  ∃ (i':Nat) (res':List V) (c' j' s':Option V) (ch':Option (List V)) (k' cu':Option V),zG5 (tη p st qm res i p.length c j s ch k cu)=some (.next,tη p st qm res' i' p.length c' j' s' ch' k' cu')∧
   i<i'∧i'≤p.length∧trGo st qm (p.drop i) res=trGo st qm (p.drop i') res'∧ResOk st res' i':=by
 have hd:p.drop i=p[i]::p.drop (i+1):=List.drop_eq_getElem_cons hi;have e:p[i]? = some p[i]:=zzlge hi;have hrs:res.length<sizeLine:=zznlu hR.len (zznlv hi (zznlt hp (by decide)));have hrs2:res.length<100000:=zznlu hR.len (zznlv hi (zznlt hp (by decide)));have hi1:i<i+1:=Nat.lt_succ_self i;generalize p[i]=x at *;have hss:isV st st=some (sameV st st):=by rw[hst];rfl
 have hsv:∀ l:List Nat,isV (.str l) st=some (sameV (.str l) st):=fun l=>by rw[hst];rfl
 have hc:∀ (y:Nat) {res':List V} {i':Int},(t2 (nmC 7) (kS [y]) eqV) (tη p st qm res' i' p.length (some (.str [x])) j s ch k cu)=some (decide (x=y)):=fun y=>x_t2 (x_nmC ⟨rfl⟩) x_kS o_eq1
 have hstart:∀ {G:SF} {r:Option (Out×List Slot)},G (tη p st qm res ((i+1:Nat):Int) p.length (some (.str [x])) j s ch k cu)=r→seqS (asg (b2 (nmC 0) (nmC 5) idxV) 7) (seqS (asg (b2 (nmC 5) (kI 1) addV) 5) (seqS G nilS)) (tη p st qm res i p.length c j s ch k cu)=seqS (fun _x=>r) nilS []:=by
  intro G r h;refine s_seq (zNS (x:=.str [x]) (x_b2 (x_nmC ⟨rfl⟩) (x_nmC ⟨rfl⟩) (zAZ ⟨e⟩))) (s_seq (zIZ (x:=((i+1:Nat):Int)) (x_b2 (x_nmC ⟨rfl⟩) x_k1 zAm)) ?_);show seqS G nilS _=_;unfold seqS;rw[h]
 have go:=fun u (R:List V)=>zAx (st:=st) (qm:=qm) (c:=x) (u:=u) (res:=R);rw[hd,go];show ∃ (i':Nat) (res':List V) (c' j' s':Option V) (ch':Option (List V)) (k' cu':Option V),zH1 _=_∧_;unfold zH1;by_cases h1:x=42
 ·refine⟨i+1,if zAL st res then res else res++[st],some (.str [x]),j,s,ch,k,cu,(hstart (zAs (hc 42) (zzdet h1) (s_seq (η1:=tη p st qm (if zAL st res then res else res++[st]) ((i+1:Nat):Int) p.length (some (.str [x])) j s ch k cu) ?_ (s_nil ⟨rfl⟩)))).trans rfl,hi1,hi,by rw[if_pos h1],?_⟩
  ·cases hl:zAL st res with
   | true=>exact zAi (zLy hR.is) (by rw[hl];rfl) (s_nil ⟨rfl⟩)
   | false=>exact zAs (zLy hR.is) (by rw[hl];rfl) (s_seq (t_app (v:=st) (x_nmE ⟨rfl⟩) hrs) (s_nil ⟨rfl⟩))
  ·split
   ·exact⟨zznlt hR.len (Nat.le_of_lt hi1),hR.is⟩
   ·exact hR.more hi1 hss
 rw[if_neg h1];by_cases h2:x=63
 ·exact⟨i+1,res++[qm],some (.str [x]),j,s,ch,k,cu,(hstart (zAi (hc 42) (zzdef h1) (s_seq (zAs (hc 63) (zzdet h2) (s_seq (t_app (v:=qm) (x_nmE ⟨rfl⟩) hrs) (s_nil ⟨rfl⟩))) (s_nil ⟨rfl⟩)))).trans rfl,hi1,hi,by rw[if_pos h2],hR.more hi1 hq⟩
 rw[if_neg h2];by_cases h3:x=91
 ·rw[if_pos h3];cases hcl:zAp (p.drop (i+1)) with
  | none=>
   refine ze11 (zNT (st:=st) (qm:=qm) (c:=some (.str [x])) (j:=j) (s:=s) (ch:=ch) (k:=k) (cu:=cu) hi hp hrs hcl) fun j' h=>?_;exact⟨i+1,res++[.str [92,91]],some (.str [x]),j',s,ch,k,cu,(hstart (zAi (hc 42) (zzdef h1) (s_seq (zAi (hc 63) (zzdef h2) (s_seq (zAs (hc 91) (zzdet h3) h) (s_nil ⟨rfl⟩))) (s_nil ⟨rfl⟩)))).trans rfl,hi1,hi,rfl,hR.more hi1 (hsv _)⟩
  | some d=>
   refine ze51 (zNR (st:=st) (qm:=qm) (c:=some (.str [x])) (j:=j) (s:=s) (ch:=ch) (k:=k) (cu:=cu) hi hp hrs2 hcl) fun j' s' ch' k' cu' h=>?_;have hdl:=zDf hcl;rw[List.length_drop] at hdl;exact⟨i+1+d+1,res++[.str (bt ((p.drop (i+1)).take d))],some (.str [x]),j',s',ch',k',cu',(hstart (zAi (hc 42) (zzdef h1) (s_seq (zAi (hc 63) (zzdef h2) (s_seq (zAs (hc 91) (zzdet h3) h) (s_nil ⟨rfl⟩))) (s_nil ⟨rfl⟩)))).trans rfl,by (clear hi1 h;exact Nat.le_add_right_of_le (zznar _ _)),by (clear hi hp hrs hrs2 hi1 h3;exact Nat.add_lt_of_lt_sub' hdl),by dsimp only;rw[List.drop_drop];rfl,hR.more (Nat.le_add_right_of_le (zznar _ _)) (hsv _)⟩
 rw[if_neg h3];exact⟨i+1,res++[.str (zAX specials x)],some (.str [x]),j,s,ch,k,cu,(hstart (zAi (hc 42) (zzdef h1) (s_seq (zAi (hc 63) (zzdef h2) (s_seq (zAi (hc 91) (zzdef h3) (s_seq (t_app (v:=.str (zAX specials x)) (zA4 (zAb (x_nmE ⟨rfl⟩) x_kA0) rfl) hrs) (s_nil ⟨rfl⟩))) (s_nil ⟨rfl⟩))) (s_nil ⟨rfl⟩)))).trans rfl,hi1,hi,rfl,hR.more hi1 (hsv _)⟩
end
theorem zLx {p:List Nat}{st qm:V}(hp:p.length≤5000){a:Nat}(hst:st=.obj a)(hq:isV qm st=some (sameV qm st)):∀ (m i:Nat) (res:List V) (c j s:Option V) (ch:Option (List V)) (k cu:Option V),p.length-i<m→i≤p.length→ResOk st res i→
  ∃ (c' j' s':Option V) (ch':Option (List V)) (k' cu':Option V),
  zAk m zG4 zG5 (tη p st qm res i p.length c j s ch k cu)=some (.next,tη p st qm (trGo st qm (p.drop i) res) p.length p.length c' j' s' ch' k' cu')
 | 0,_,_,_,_,_,_,_,_,h,_,_=>absurd h (Nat.not_lt_zero _)
 | m+1,i,res,c,j,s,ch,k,cu,hm,hi,hR=>by
  have hT:zG4 (tη p st qm res i p.length c j s ch k cu)=some (decide (i<p.length)):=x_t2 (x_nmC ⟨rfl⟩) (x_nmC ⟨rfl⟩) o_ltN;by_cases hl:i<p.length
  ·obtain⟨i',res',c',j',s',ch',k',cu',h1,h2,h3,h4,h5⟩:=zMn (c:=c) (j:=j) (s:=s) (ch:=ch) (k:=k) (cu:=cu) hl hp hst hq hR;rw[zAI (by rw[hT,decide_eq_true hl]) h1,h4];exact zLx hp hst hq m i' res' c' j' s' ch' k' cu' (zn224 hm h2 h3) h3 h5
  ·have:i=p.length:=by exact zn51 hi hl
   subst this;refine⟨c,j,s,ch,k,cu,?_⟩;rw[zAy (by rw[hT,decide_eq_false hl]),List.drop_length,zBj]
noncomputable def zET:List V→Option V:=fun xs=>(arg3 xs).bind fun q=>(asStr q.1).bind fun p=>(objOf q.2.1).bind fun a=>
 if p.length≤5000∧isV q.2.2 (.obj a)=some (sameV q.2.2 (.obj a)) then some (.lst (trGo (.obj a) q.2.2 p [])) else none
theorem zLv {xs:List V}{r:V}(h:zET xs=some r):∃ p a qm,xs=[.str p,.obj a,qm]∧(p.length≤5000∧isV qm (.obj a)=some (sameV qm (.obj a)))∧.lst (trGo (.obj a) qm p [])=r:=by
 refine zbd h fun q h1 h=>?_;refine zbd h fun p h2 h=>?_;refine zbd h fun a h3 h=>?_;refine ze02 (zAl h) fun h4 h=>?_;refine⟨p,a,q.2.2,?_,h4,Option.some.inj h⟩;rw[zLu h1,zAv h2,zJt h3]
theorem tr_B {p:List Nat}{a:Nat}{qm:V}(hp:p.length≤5000)(hq:isV qm (.obj a)=some (sameV qm (.obj a))):
  ∃ η',zJ2 [.val (.str p),.val (.obj a),.val qm,.undef,.undef,.undef,.undef,.undef,.undef,.undef,.undef,.undef,.undef]=some (.ret (.lst (trGo (.obj a) qm p [])),η'):=by
 unfold zJ2;obtain⟨c',j',s',ch',k',cu',h1⟩:=zLx hp (rfl:V.obj a=.obj a) hq 100000 0 [] none none none none none none (zznlu hp (zznbl rfl)) (Nat.zero_le _) ⟨zznlr _,by simp⟩;have h2:frz 3 (retS (nmE 3)) (tη p (.obj a) qm (trGo (.obj a) qm (p.drop 0) []) p.length p.length c' j' s' ch' k' cu')=some (.ret (.lst (trGo (.obj a) qm p [])),setS (tη p (.obj a) qm (trGo (.obj a) qm (p.drop 0) []) p.length p.length c' j' s' ch' k' cu') 3 (.val (.lst (trGo (.obj a) qm p [])))):=rfl;refine⟨_,s_seq (zCP (v:=[]) (zCo x_kA0 ⟨by simp⟩)) (s_seq (η1:=[.val (.str p),.val (.obj a),.val qm,.ownP [],.app 3,.undef,.undef,.undef,.undef,.undef,.undef,.undef,.undef]) rfl (s_seq (η1:=tη p (.obj a) qm [] ((0:Nat):Int) p.length none none none none none none) rfl (s_seq h1 (s_seq (zGt (x_t (x_t2 (x_nmC ⟨rfl⟩) (x_nmC ⟨rfl⟩) o_eqN) (zzdet rfl))) (zJ7 h2)))))⟩
theorem zE7 {st qm:V}:∀ (n:Nat) (u:List Nat) (res:List V),u.length≤n→∀ v∈trGo st qm u res,v∈res∨v=st∨v=qm∨∃ l,v=.str l
 | n,[],res,_,v,hv=>by rw[zBj] at hv;exact .inl hv
 | 0,c::u,res,h,_,_=>by simp at h
 | n+1,c::u,res,h,v,hv=>by
  have hu:u.length≤n:=by simpa using h
  rw[zAx] at hv;have key:∀ (u':List Nat) (x:V),u'.length≤n→(x=st∨x=qm∨∃ l,x=.str l)→v∈trGo st qm u' (res++[x])→v∈res∨v=st∨v=qm∨∃ l,v=.str l:=by
   intro u' x hu' hx hv;rcases zE7 n u' _ hu' v hv with h | h
   ·rcases List.mem_append.mp h with h | h
    ·exact .inl h
    ·have:v=x:=by simpa using h
     rw[this];exact .inr hx
   ·exact .inr h
  split at hv
  ·split at hv
   ·exact zE7 n u res hu v hv
   ·exact key u st hu (.inl rfl) hv
  ·split at hv
   ·exact key u qm hu (.inr (.inl rfl)) hv
   ·split at hv
    ·split at hv
     ·exact key _ _ (by simp;exact zznlt hu (zznar _ _)) (.inr (.inr ⟨_,rfl⟩)) hv
     ·exact key _ _ hu (.inr (.inr ⟨_,rfl⟩)) hv
    ·exact key _ _ hu (.inr (.inr ⟨_,rfl⟩)) hv
theorem zCe {k:Nat}:∀ {l:List V},zAM k l=true↔∀ v∈l,zBP k v=true
 | []=>by simp[zAM]
 | x::r=>by simp[zAM,zCe (l:=r)]
theorem zNM {k:Nat}{xs:List V}{r:V}(h:zET xs=some r)(hx:zAM k xs=true):zBP k r=true:=by
 refine ze33 (zLv h) fun p a qm e _ hr=>?_;subst e hr;rw[zCe] at hx;have h1:=hx (.obj a) (by simp);have h2:=hx qm (by simp);show zAM k _=true;rw[zCe];intro v hv;rcases zE7 p.length p [] (zznlr _) v hv with h | h | h | ⟨l,h⟩
 ·cases h
 ·rw[h];exact h1
 ·rw[h];exact h2
 ·rw[h];rfl
noncomputable def gE:Option El→Slot
 | none=>.undef
 | some e=>e.slot
noncomputable def El.rc:El→V
 | .val v=>v
 | .own l=>.lst l
noncomputable def El.rv:El→Option V
 | .val v=>some v
 | .own _=>none
noncomputable def El.ow:El→Option (List V)
 | .val _=>none
 | .own l=>some l
@[simp] theorem El.rc_val {v:V}:(El.val v).rc=v:=rfl
@[simp] theorem El.rc_own {v:List V}:(El.own v).rc=.lst v:=rfl
@[simp] theorem El.rv_val {v:V}:(El.val v).rv=some v:=rfl
@[simp] theorem El.rv_own {v:List V}:(El.own v).rv=none:=rfl
@[simp] theorem El.ow_own {v:List V}:(El.own v).ow=some v:=rfl
@[simp] theorem El.slot_val {v:V}:(El.val v).slot=.val v:=rfl
@[simp] theorem El.slot_own {v:List V}:(El.own v).slot=.own v:=rfl
noncomputable def fr (l:List (Option El))(t:List Slot):List Slot:=l.map gE++t
noncomputable abbrev vl (v:V):Option El:=some (.val v)
noncomputable abbrev ol (v:List V):Option El:=some (.own v)
theorem zER {l:List (Option El)}{t:List Slot}{i:Nat}(h:i<l.length):(fr l t)[i]? = some (gE l[i]):=by
 unfold fr;rw[List.getElem?_append_left (by simpa using h)];simp[h]
theorem fr_at {l:List (Option El)}{t:List Slot}{i:Nat}{x:Option El}(h:l[i]? = some x):(fr l t)[i]? = some (gE x):=by
 refine ze11 (List.getElem?_eq_some_iff.mp h) fun h1 h2=>?_;rw[zER h1,h2]
@[simp] theorem fr_rdc {l:List (Option El)}{t:List Slot}{i:Nat}(h:i<l.length):rdc (fr l t) i=(l[i]).map El.rc:=by
 unfold rdc;rw[zER h];cases l[i] with
 | none=>rfl
 | some e=>cases e<;>rfl
@[simp] theorem fr_rd {l:List (Option El)}{t:List Slot}{i:Nat}(h:i<l.length):rd (fr l t) i=(l[i]).bind El.rv:=by
 unfold rd;rw[zER h];cases l[i] with
 | none=>rfl
 | some e=>cases e<;>rfl
theorem zJU {l:List (Option El)}{t:List Slot}{i:Nat}{e:El}(h:i<l.length):setS (fr l t) i e.slot=fr (l.set i (some e)) t:=by
 unfold setS;rw[zER h];have:(fr l t).set i e.slot=fr (l.set i (some e)) t:=by
  unfold fr;rw[List.set_append_left _ _ (by simpa using h),List.map_set];rfl
 rw[←this];cases l[i] with
 | none=>rfl
 | some e'=>cases e'<;>rfl
@[simp] theorem zBQ {l:List (Option El)}{t:List Slot}{i:Nat}{v:V}(h:i<l.length):setS (fr l t) i (.val v)=fr (l.set i (vl v)) t:=zJU (e:=.val v) h
@[simp] theorem zNe {l:List (Option El)}{t:List Slot}{i:Nat}{v:List V}(h:i<l.length):setS (fr l t) i (.own v)=fr (l.set i (ol v)) t:=zJU (e:=.own v) h
@[simp] theorem zLQ {l:List (Option El)}{t:List Slot}{i:Nat}(h:i<l.length):ownL (fr l t) i=(l[i]).bind El.ow:=by
 unfold ownL;rw[zER h];cases l[i] with
 | none=>rfl
 | some e=>cases e<;>rfl
theorem zOn {l:List (Option El)}{t:List Slot}{i:Nat}{x y:List V}(h:l[i]? = some (ol x)):updL (fr l t) i y=fr (l.set i (ol y)) t:=by
 refine ze11 (List.getElem?_eq_some_iff.mp h) fun h1 h2=>?_;unfold updL;rw[zER h1,h2];show (fr l t).set i (.own y)=_;unfold fr;rw[List.set_append_left _ _ (by simpa using h1),List.map_set];rfl
theorem zOp {f:EF}{i:Nat}{l t v}(h:f (fr l t)=some v)(hi:i<l.length):asg f i (fr l t)=some (.next,fr (l.set i (vl v)) t):=by rw[zCQ h,zBQ hi]
theorem zNg {f:List Slot→Option (List V)}{i:Nat}{l t v}(h:f (fr l t)=some v)(hi:i<l.length):zA6 f i (fr l t)=some (.next,fr (l.set i (ol v)) t):=by rw[zCP h,zNe hi]
theorem zOq {f:EF}{i:Nat}{l t v x}(h:f (fr l t)=some v)(hi:l[i]? = some (ol x))(hl:x.length<sizeLine):appS i f (fr l t)=some (.next,fr (l.set i (ol (x++[v]))) t):=by
 unfold appS;have hi1:=(List.getElem?_eq_some_iff.mp hi)
 rw[zLQ hi1.1,hi1.2];show (some x).bind _=_;simp only[Option.bind_some,h,hl,if_true];rw[zOn hi]
theorem zOo {f:EF}{i:Nat}{l t x y v}(hx:l[i]? = some (vl x))(h:f (fr l t)=some y)(ho:iopV .Add x y=some v):aug i f (fr l t)=some (.next,fr (l.set i (vl v)) t):=by
 unfold aug;have hi1:=(List.getElem?_eq_some_iff.mp hx)
 rw[fr_rd hi1.1,hi1.2];simp only[Option.bind_some,El.rv_val,h,ho];rw[zBQ hi1.1]
theorem zGI:∀ {is:List Nat} {es:List El} {l:List (Option El)} {t:List Slot},is.length=es.length→(∀ i∈is,i<l.length)→stEl is es (fr l t)=some (fr ((is.zip es).foldl (fun l x=>l.set x.1 (some x.2)) l) t)
 | [],[],_,_,_,_=>rfl
 | i::is,e::es,l,t,h,hl=>by
  show stEl is es (setS (fr l t) i e.slot)=_;rw[zJU (hl i (by simp))];rw[zGI (by simpa using h) (fun k hk=>by simpa using hl k (by simp[hk]))];rfl
theorem zNd {is:List Nat}{fb}{l t es}(h:fb (fr l t)=some es)(h1:is.length=es.length)(h2:∀ i∈is,i<l.length)(h3:es.length≤1000):
  tupR is fb (fr l t)=some (.next,fr ((is.reverse.zip es.reverse).foldl (fun l x=>l.set x.1 (some x.2)) l) t):=by
 unfold tupR;rw[h];simp only[Option.bind_some,h3,if_true];rw[zGI (by simpa using h1) (fun i hi=>h2 i (by simpa using hi))];rfl
theorem zNc {is:List Nat}{fb}{l t es}(h:fb (fr l t)=some es)(h1:is.length=es.length)(h2:∀ i∈is,i<l.length)(h3:es.length≤1000):
  tupS is fb (fr l t)=some (.next,fr ((is.zip es).foldl (fun l x=>l.set x.1 (some x.2)) l) t):=by
 unfold tupS;rw[h];simp only[Option.bind_some,h3,if_true];rw[zGI h1 h2];rfl
theorem zEQ {i:Nat}{x:V}{l t}(hi:i<l.length):tgN i x (fr l t)=some (fr (l.set i (vl x)) t):=by unfold tgN;rw[zBQ hi]
theorem zNf {i:Nat}{fi ts fe}{l:List (Option El)}{t:List Slot}{xs:List V}{g:V→Option (Option V)}(hi:l[i]? = some none)(hx:fi (fr l t)=some xs)(hl:xs.length≤sizeLine)
  (hg:∀ x∈xs,((ts (fr (l.set i (vl x)) t)).bind fun b=>if b=true then (fe (fr (l.set i (vl x)) t)).map some else some none)=g x):compF [i] fi (tgN i) ts fe (fr l t)=compV g xs:=by
 unfold compF;rw[if_pos (by simp[fr_at hi,gE,Slot.isUndef])];rw[hx];simp only[Option.bind_some,hl,if_true];clear hx hl
 induction xs with
 | nil=>rfl
 | cons x xs ih=>
  have hi1:=(List.getElem?_eq_some_iff.mp hi).1
  have e1:itemF (tgN i) ts fe (fr l t) x=g x:=by
   unfold itemF;rw[zEQ hi1];simp only[Option.bind_some];exact hg x (by simp)
  unfold compV;rw[e1,ih fun y hy=>hg y (by simp[hy])]
section
variable {η η':List Slot} {f h k m:EF} {x y z q r:V} {b c:Bool}
end
theorem o_in1 {a:Nat}{l:List Nat}:inV (.str [a]) (.str l)=some (decide (a∈l)):=zJQ
section
variable {η η1:List Slot} {F G:SF} {l l':List (Option El)} {tl:List Slot} {i:Nat} {r:Option (Out×List Slot)}
theorem s_asg {f:EF}{v:V}(h:f (fr l tl)=some v)(hi:Rf (decide (i<l.length)=true))(hl:Rf (l.set i (vl v)=l')):asg f i (fr l tl)=some (.next,fr l' tl):=by rw[zOp h (of_decide_eq_true hi.out),hl.out]
theorem zN3 {f:List Slot→Option (List V)}{v:List V}(h:f (fr l tl)=some v)(hi:Rf (decide (i<l.length)=true))(hl:Rf (l.set i (ol v)=l')):zA6 f i (fr l tl)=some (.next,fr l' tl):=by rw[zNg h (of_decide_eq_true hi.out),hl.out]
theorem s_app {f:EF}{v:V}{x:List V}(h:f (fr l tl)=some v)(hi:Rf (l[i]? = some (ol x)))(hz:Sd (x.length<1000000))(hl:Rf (l.set i (ol (x++[v]))=l')):appS i f (fr l tl)=some (.next,fr l' tl):=by
 rw[zOq h hi.out (Nat.lt_of_lt_of_le hz.out (by decide)),hl.out]
theorem s_aug {f:EF}{x y v:V}(h:f (fr l tl)=some y)(hx:Rf (l[i]? = some (vl x)))(ho:iopV .Add x y=some v)(hl:Rf (l.set i (vl v)=l')):aug i f (fr l tl)=some (.next,fr l' tl):=by
 rw[zOo hx.out h ho,hl.out]
theorem zGb {is:List Nat}{fb:List Slot→Option (List El)}{es:List El}(h:fb (fr l tl)=some es)(h1:Rf (is.length=es.length))(h2:Rf ((is.all fun i=>decide (i<l.length))=true))(h3:Sd (es.length≤1000))(hl:Rf ((is.reverse.zip es.reverse).foldl (fun l x=>l.set x.1 (some x.2)) l=l')):
  tupR is fb (fr l tl)=some (.next,fr l' tl):=by
 rw[zNd h h1.out (fun i hi=>of_decide_eq_true (List.all_eq_true.mp h2.out i hi)) h3.out,hl.out]
theorem zJh {is:List Nat}{fb:List Slot→Option (List El)}{es:List El}(h:fb (fr l tl)=some es)(h1:Rf (is.length=es.length))(h2:Rf ((is.all fun i=>decide (i<l.length))=true))(h3:Sd (es.length≤1000))(hl:Rf ((is.zip es).foldl (fun l x=>l.set x.1 (some x.2)) l=l')):
  tupS is fb (fr l tl)=some (.next,fr l' tl):=by
 rw[zNc h h1.out (fun i hi=>of_decide_eq_true (List.all_eq_true.mp h2.out i hi)) h3.out,hl.out]
theorem zLD (h:F η=some (.brk,η1)):seqS F G η=some (.brk,η1):=zHc h
theorem zJi {t:List Slot→Option Bool}(h:t η=some true):zBh t η=some (.next,η):=zGt h
end
end Mine.Internal
namespace Mine.Internal
section
variable {η η1:List Slot} {F G:SF} {r:Option (Out×List Slot)} {x y:V} {i:Nat} {l:List (Option El)} {tl:List Slot}
theorem s_for {fi:List Slot→Option (List V)}{tg:V→List Slot→Option (List Slot)}{xs:List V}(h:fi η=some xs)(hr:forL tg F xs η=r):forS fi tg F η=r:=(zLX h).trans hr
end
end Mine.Internal
namespace Mine.Internal
noncomputable def Ret (F:SF)(η:List Slot)(v:V):Prop:=∃ η',F η=some (.ret v,η')
section
variable {η η1:List Slot} {F G:SF} {v:V}
theorem q_seq (h:F η=some (.next,η1))(hG:Ret G η1 v):Ret (seqS F G) η v:=by
 refine ze11 hG fun η' h2=>?_;clear hG;exact⟨η',(zLV h).trans h2⟩
theorem zBv (hF:Ret F η v):Ret (seqS F G) η v:=by
 refine ze11 hF fun η' h2=>?_;clear hF;exact⟨η',zJ7 h2⟩
theorem q_ret {f:EF}(h:f η=some v):Ret (retS f) η v:=⟨η,zOr h⟩
theorem zN6 {t:List Slot→Option Bool}{b:Bool}(h:t η=some b)(hb:b=true)(hF:Ret F η v):Ret (ifS t F G) η v:=by
 refine ze11 hF fun η' h2=>?_;clear hF;exact⟨η',(zJ8 (hb▸h)).trans h2⟩
end
end Mine.Internal
namespace Mine.Internal
theorem zJR {α:Type}{l:List α}{k:Int}(h0:0≤k):idx l k=l[k.toNat]?:=by
 have:k=((k.toNat:Nat):Int):=by exact zn226 h0
 rw[this,zFw];rfl
theorem zJw {l:List V}{k:Int}{c:V}(h0:Sd (0≤k))(h:Lk (l[k.toNat]? = some c)):idxV (.lst l) (.int k)=some c:=(zJR h0.out).trans h.out
theorem zEH:∀ ls:List (List Nat),strsOf (ls.map V.str)=some ls
 | []=>rfl
 | x::r=>by
  show (strsOf (r.map V.str)).map (x::·)=_;rw[zEH r];rfl
theorem zLH {sep:List Nat}{ls:List (List Nat)}(h:Sd ((ls.map fun l=>l.length+sep.length).sum≤1000000)):joinV (.str sep) (.lst (ls.map V.str))=some (.str (joinL sep ls)):=by
 show ((strsOf (ls.map V.str)).bind fun ls=>if (ls.map fun l=>l.length+sep.length).sum≤1000000 then some (V.str (joinL sep ls)) else none)=_;rw[zEH];exact if_pos h.out
theorem zFR {α:Type}{q h:α→V}{p:α→Bool}{g:V→Option (Option V)}:∀ {as:List α},(∀ a∈as,g (q a)=some (if p a=true then some (h a) else none))→compV g (as.map q)=some ((as.filter p).map h)
 | [],_=>rfl
 | a::as,hg=>by
  rw[List.map_cons];unfold compV;rw[hg a (by simp),zFR fun y hy=>hg y (by simp[hy])];simp only[Option.bind_some,List.filter_cons];cases p a<;>rfl
set_option tactic.hygienic true in
theorem zDV {α:Type}{as:List α}{q h:α→V}{p:α→Bool}{i:Nat}{fi ts fe}{l:List (Option El)}{tl:List Slot}(hi:Rf (l[i]? = some none))(hx:fi (fr l tl)=some (as.map q))(hl:Sd (as.length≤1000000))
  (ht:∀ a∈as,ts (fr (l.set i (vl (q a))) tl)=some (p a)) (hg:∀ a∈as,p a=true→fe (fr (l.set i (vl (q a))) tl)=some (h a)):compF [i] fi (tgN i) ts fe (fr l tl)=some ((as.filter p).map h):=by
 rw[zNf (g:=fun x=>(ts (fr (l.set i (vl x)) tl)).bind fun b=>if b=true then (fe (fr (l.set i (vl x)) tl)).map some else some none) hi.out hx (by simp;exact Nat.le_trans hl.out (by decide)) fun x _x=>rfl];exact zFR fun a ha=>by
  rw[ht a ha];simp only[Option.bind_some];split
  ·rename_i hp;rw[hg a ha hp];rfl
  ·rfl
theorem zDW {α:Type}{as:List α}{q h:α→V}{i:Nat}{fi fe}{l:List (Option El)}{tl:List Slot}(hi:Rf (l[i]? = some none))(hx:fi (fr l tl)=some (as.map q))(hl:Sd (as.length≤1000000))
  (hg:∀ a∈as,fe (fr (l.set i (vl (q a))) tl)=some (h a)):compF [i] fi (tgN i) (kT true) fe (fr l tl)=some (as.map h):=by
 have:=zDV (p:=fun _x=>true) (ts:=kT true) (h:=h) hi hx hl (fun _x _x=>rfl) fun a ha _x=>hg a ha;rw[List.filter_eq_self.mpr (fun _x _x=>rfl)] at this;exact this
theorem zC7:∀ {ls:List (List Nat)},joinL [] ls=ls.flatten
 | []=>rfl
 | [x]=>by simp[joinL]
 | x::y::r=>by rw[joinL,zC7 (ls:=y::r)];simp;intro h;cases h
theorem zGe {a n:Nat}(ha:a≤100000)(hn:n≤100000):zBd (.int (a:Int)) (.int (n:Int)) (.int 1)=some ((List.range' a (n-a)).map fun (i:Nat)=>V.int i):=by
 refine Eq.trans (if_pos ⟨by decide,by decide,by decide,by lia,by lia,by lia,by lia⟩) ?_;unfold zBO;have:zBk (a:Int) (n:Int) 1=n-a:=by
  unfold zBk Builtin.Range.rangeSize;simp;split<;>lia
 rw[this,List.range'_eq_map_range,List.map_map];congr 1;apply List.map_congr_left;intro i _;simp
theorem zEM {n:Nat}(hn:Sd (n≤100000)):zBd (.int 0) (.int (n:Int)) (.int 1)=some ((List.range' 0 n).map fun (i:Nat)=>V.int i):=zGe (a:=0) (by decide) hn.out
theorem o_rng {a n:Nat}(ha:Sd (a≤100000))(hn:Sd (n≤100000)):zBd (.int (a:Int)) (.int (n:Int)) (.int 1)=some ((List.range' a (n-a)).map fun (i:Nat)=>V.int i):=zGe ha.out hn.out
theorem zIy:∀ {l:List PyData},PyData.eqvAll l []=l.isEmpty
 | []=>by simp[PyData.eqvAll]
 | _::_=>by simp[PyData.eqvAll]
theorem zAG:∀ {l:List V},(∀ v∈l,noObj v=true)→zAw l=true
 | [],_=>rfl
 | x::l,h=>by simp[zAw,h x (by simp),zAG (l:=l) fun v hv=>h v (by simp[hv])]
theorem eq_nil {l:List V}(h:∀ v∈l,noObj v=true):eqV (.lst l) (.lst [])=some l.isEmpty:=by
 have h1:=zAG h;refine Eq.trans (if_pos (by simp[noObj,zAw,dep,deps,h1])) ?_;simp only[py,PyData.eqv,pys,zIy];cases l<;>rfl
end Mine.Internal
namespace Mine.Internal
section
variable {η:List Slot} {f h:EF} {x y:V} {t:List Slot→Option Bool} {b:Bool}
end
end Mine.Internal
namespace Mine.Internal
end Mine.Internal
namespace Mine.Internal
end Mine.Internal
namespace Mine.Internal
theorem zL0:∀ {l:List (Option El)} {n:Nat},cntN (fr l [.cnt n])=some n
 | [],n=>rfl
 | x::l,n=>by
  have ih:=zL0 (l:=l) (n:=n);show (gE x::fr l [.cnt n]).findSome? Slot.cnt? = _
  have h:Slot.cnt? (gE x)=none:=by
   cases x with
   | none=>rfl
   | some e=>cases e<;>rfl
  rw[List.findSome?_cons,h];exact ih
theorem zL5:∀ {l:List (Option El)} {n:Nat},bump (fr l [.cnt n])=fr l [.cnt (n+1)]
 | [],n=>rfl
 | x::l,n=>by
  have ih:=zL5 (l:=l) (n:=n)
  have h:Slot.bump (gE x)=gE x:=by
   cases x with
   | none=>rfl
   | some e=>cases e<;>rfl
  show Slot.bump (gE x)::bump (fr l [.cnt n])=gE x::fr l [.cnt (n+1)];rw[h,ih]
theorem s_new {i n:Nat}{l l':List (Option El)}(hi:Rf (decide (i<l.length)=true))(hl:Rf (l.set i (vl (.obj n))=l')):newS i (fr l [.cnt n])=some (.next,fr l' [.cnt (n+1)]):=by
 unfold newS;rw[zL0];simp only[Option.bind_some];rw[zL5,zBQ (of_decide_eq_true hi.out),hl.out]
theorem zHY:∀ {l:List V},(∀ v∈l,noObj v=true∧dep v≤1)→zAw l=true∧deps l≤1
 | [],_=>by simp[zAw,deps]
 | x::l,h=>by
  have h1:=h x (by simp);have h2:=zHY (l:=l) fun v hv=>h v (by simp[hv]);exact⟨by simp[zAw,h1,h2],by simp only[deps];lia⟩
theorem zNm {l:List V}(h:∀ v∈l,noObj v=true∧dep v≤1):eqV (.lst l) (.lst l)=some true:=by
 have h:=zHY h;have h1:noObj (.lst l)=true:=by simp[noObj,h.1]
 have h2:dep (.lst l)≤8:=by simp[dep];lia
 exact zH6 h1 h2
end Mine.Internal
namespace Mine.Internal
noncomputable def prs:List Nat→List (Nat×Nat×Bool)
 | []=>[]
 | [x]=>[(x,x,false)]
 | [x,h]=>[(x,x,false),(h,h,false)]
 | x::h::y::u=>if h=45 then (x,y,true)::prs u else (x,x,false)::prs (h::y::u)
noncomputable def wr1 (E:Nat→List Nat)(i:Nat×Nat×Bool):List Nat:=if i.2.2=true then E i.1++45::E i.2.1 else E i.1
noncomputable def okI (i:Nat×Nat×Bool):Bool:=decide (i.1≤i.2.1)
noncomputable def flatI (E:Nat→List Nat)(l:List (Nat×Nat×Bool)):List Nat:=(l.filter okI).flatMap (wr1 E)
noncomputable def E0 (c:Nat):List Nat:=if c=92 then [92,92] else if c=45 then [92,45] else [c]
noncomputable def e1 (c:Nat):List Nat:=if c=92∨c=45∨c=38∨c=126∨c=124 then [92,c] else [c]
theorem zA2 (l:List Nat):escE l=l.flatMap E0:=by
 induction l with
 | nil=>rfl
 | cons c l ih=>
  have h1:∀ a b:List Nat,subst 45 [92,45] (a++b)=subst 45 [92,45] a++subst 45 [92,45] b:=fun a b=>by simp[subst]
  have h2:escE (c::l)=subst 45 [92,45] (if c=92 then [92,92] else [c])++escE l:=by
   unfold escE;rw[←h1];rfl
  rw[h2,ih,List.flatMap_cons];congr 1;unfold E0;by_cases h:c=92
  ·subst h;rfl
  ·rw[if_neg h,if_neg h];simp[subst]
theorem zDQ (a b:List Nat):escE (a++b)=escE a++escE b:=by simp[zA2]
noncomputable def cks (m:Nat)(w:List Nat)(i k:Nat):List (List Nat):=
 if (w.drop (zAe m w i k).2).isEmpty then zCm (zAe m w i k).1 else (zAe m w i k).1++[w.drop (zAe m w i k).2]
theorem zB0 {a b:List Nat}{r:List (List Nat)}:joinL [45] ((a++b)::r)=a++joinL [45] (b::r):=by
 cases r with
 | nil=>rfl
 | cons x r=>simp[joinL]
set_option tactic.hygienic true in
theorem zNy {m:Nat}{P u:List Nat}{x y:Nat}(hm:1≤m):cks (m+1) (P++x::45::y::u) 0 (P.length+1)=(P++[x])::cks m (y::u) 0 2:=by
 have hd:(P++x::45::y::u).drop (P.length+1)=45::y::u:=by
  rw[List.drop_append];simp
 have ha:(P++x::45::y::u).drop (P.length+2)=y::u:=by
  rw[List.drop_append];simp
 have hs:zAe (m+1) (P++x::45::y::u) 0 (P.length+1)=((P++[x])::(zAe m (y::u) 0 2).1,P.length+2+(zAe m (y::u) 0 2).2):=by
  have h:=zCa m (P++x::45::y::u) (P.length+2) 0 2 (Nat.zero_le _);rw[ha] at h;rw[zAe,hd];simp only[fi,if_true];have e:P.length+1+0+1=P.length+2+0:=by exact Nat.succ_add _ _
  have e2:P.length+1+0+3=P.length+2+2:=by (clear h;exact Nat.succ_add _ _)
  rw[e,e2,h];have ht:(P++x::45::y::u).take (P.length+1)=P++[x]:=by rw[List.take_append];simp[List.take_of_length_le]
  simp[ht]
 have h5:=(zCb m (y::u) 0 2 (Nat.succ_pos _) (Nat.zero_le _)).2.2.2.2;unfold cks;rw[hs];dsimp only;have e3:(P++x::45::y::u).drop (P.length+2+(zAe m (y::u) 0 2).2)=(y::u).drop (zAe m (y::u) 0 2).2:=by
  rw[←List.drop_drop,ha]
 rw[e3];split
 ·rename_i he;cases hc:(zAe m (y::u) 0 2).1 with
  | nil=>rw[h5 hc] at he;simp at he
  | cons c0 c1=>rfl
 ·rfl
theorem zIc {m:Nat}{P u:List Nat}{x y:Nat}(hy:y≠45):cks m (P++x::y::u) 0 (P.length+1)=cks m (P++[x]++y::u) 0 ((P++[x]).length+1):=by
 have hs:zAe m (P++x::y::u) 0 (P.length+1)=zAe m (P++[x]++y::u) 0 ((P++[x]).length+1):=by
  have e:P++[x]++y::u=P++x::y::u:=by simp
  rw[e];have hl:(P++[x]).length+1=P.length+1+1:=by simp
  rw[hl];cases m with
  | zero=>rfl
  | succ m=>
   have hd:(P++x::y::u).drop (P.length+1)=y::u:=by rw[List.drop_append];simp
   have hd2:(P++x::y::u).drop (P.length+1+1)=u:=by
    have e:P++x::y::u=(P++[x,y])++u:=by simp
    rw[e,List.drop_append];simp
   rw[zAe,zAe,hd,hd2];rw[fi,if_neg hy];cases fi 45 u with
   | none=>rfl
   | some d=>
    simp only[Option.map_some];have e1:P.length+1+(d+1)=P.length+1+1+d:=by exact(Nat.succ_add _ _).symm
    rw[e1]
 unfold cks;rw[hs];have e:P++x::y::u=P++[x]++y::u:=by simp
 rw[e]
theorem zNx {m:Nat}{P:List Nat}{x:Nat}:cks (m+1) (P++[x]) 0 (P.length+1)=[P++[x]]:=by
 have hd:(P++[x]).drop (P.length+1)=[]:=by apply List.drop_eq_nil_of_le;simp
 have hs:zAe (m+1) (P++[x]) 0 (P.length+1)=([],0):=by
  rw[zAe,hd];rfl
 unfold cks;rw[hs];simp
theorem zNw {m:Nat}{P:List Nat}{x:Nat}:cks (m+1) (P++[x,45]) 0 (P.length+1)=[P++[x,45]]:=by
 have hd:(P++[x,45]).drop (P.length+1)=[45]:=by rw[List.drop_append];simp
 have ht:(P++[x,45]).take (P.length+1)=P++[x]:=by rw[List.take_append];simp[List.take_of_length_le]
 have hs:zAe (m+1) (P++[x,45]) 0 (P.length+1)=([P++[x]],P.length+2):=by
  rw[zAe,hd];simp only[fi,if_true];have hn:∀ i k,k≥P.length+2→zAe m (P++[x,45]) i k=([],i):=fun i k hk=>by
   cases m with
   | zero=>rfl
   | succ m=>
    have:(P++[x,45]).drop k=[]:=by apply List.drop_eq_nil_of_le;simp;exact hk
    rw[zAe,this];rfl
  rw[hn _ _ (Nat.lt_add_of_pos_right (Nat.succ_pos _))];simp[ht]
 unfold cks;rw[hs];have:(P++[x,45]).drop (P.length+2)=[]:=by apply List.drop_eq_nil_of_le;simp
 rw[this];simp[zCm]
theorem zNv {m:Nat}{P:List Nat}(hP:P≠[]):cks m P 0 (P.length+1)=[P]:=by
 have hs:zAe m P 0 (P.length+1)=([],0):=by
  cases m with
  | zero=>rfl
  | succ m=>
   have hd:P.drop (P.length+1)=[]:=by apply List.drop_eq_nil_of_le;simp
   rw[zAe,hd];rfl
 unfold cks;rw[hs];simp[hP]
theorem zAh {E:Nat→List Nat}{i:Nat×Nat×Bool}{l}:flatI E (i::l)=(if i.1≤i.2.1 then wr1 E i else [])++flatI E l:=by
 unfold flatI;rw[List.filter_cons];unfold okI;by_cases h:i.1≤i.2.1
 ·simp[h]
 ·simp[h]
theorem zCE:∀ (n m:Nat) (P t:List Nat),t.length≤n→t.length<m→P++t≠[]→∃ r rs,mrg (cks m (P++t) 0 (P.length+1))=(P++r)::rs∧joinL [45] ((r::rs).map escE)=flatI E0 (prs t)
 | n,m,P,[],_,_,hne=>by
  simp only[List.append_nil] at hne ⊢;rw[zNv hne];exact⟨[],[],by simp[mrg,step],rfl⟩
 | n,0,P,t,_,h,_=>absurd h (Nat.not_lt_zero _)
 | n,m+1,P,[x],_,_,_=>by
  rw[zNx];refine⟨[x],[],rfl,?_⟩;show escE [x]=_;rw[prs,zAh];simp[zA2,wr1,flatI]
 | n+1,m+1,P,[x,y],hn,hm,_=>by
  by_cases hy:y=45
  ·subst hy;rw[zNw];refine⟨[x,45],[],rfl,?_⟩;show escE [x,45]=_;rw[prs,zAh,zAh];simp[zA2,wr1,flatI]
  ·rw[zIc hy];obtain⟨r,rs,h1,h2⟩:=zCE n (m+1) (P++[x]) [y] (by simp at hn ⊢;exact hn) (by simp at hm ⊢;exact zn234 hm) (by simp);refine⟨x::r,rs,by rw[h1];simp,?_⟩;rw[List.map_cons,show x::r=[x]++r from rfl,zDQ,zB0,←List.map_cons,h2];rw[prs,prs,zAh,zAh,zAh];simp[zA2,wr1,flatI]
 | n+1,m+1,P,x::h::y::u,hn,hm,_=>by
  by_cases hh:h=45
  ·subst hh;rw[zNy (by simp at hm;exact Nat.le_trans (Nat.le_add_left _ _) hm)];obtain⟨r,rs,h1,h2⟩:=zCE n m [y] u (by simp at hn ⊢;exact Nat.le_of_succ_le (Nat.le_of_succ_le hn)) (by simp at hm ⊢;exact Nat.le_of_succ_le (Nat.le_of_succ_le hm)) (by simp);have h1':mrg (cks m (y::u) 0 2)=(y::r)::rs:=h1;rw[prs,if_pos rfl,zAh];have hl:last0 (P++[x])=x:=by simp[last0]
   have hst:mrg ((P++[x])::cks m (y::u) 0 2)=step (P++[x]) ((y::r)::rs):=by rw[mrg,h1']
   rw[hst,step_cons,hl];show ∃ r' rs',(if y<x then _ else _)=_∧_;by_cases hlt:y<x
   ·rw[if_pos hlt];refine⟨r,rs,by simp,?_⟩;rw[h2];have:¬(x≤y):=by exact Nat.not_le_of_lt hlt
    simp[this]
   ·rw[if_neg hlt];refine⟨[x],(y::r)::rs,rfl,?_⟩;have hle:x≤y:=by exact Nat.le_of_not_lt hlt
    have e:joinL [45] (([x]::(y::r)::rs).map escE)=escE [x]++[45]++joinL [45] (((y::r)::rs).map escE):=rfl;rw[e];have e2:joinL [45] (((y::r)::rs).map escE)=escE [y]++joinL [45] ((r::rs).map escE):=by
     rw[List.map_cons,show y::r=[y]++r from rfl,zDQ,zB0];rfl
    rw[e2,h2];simp[hle,wr1,zA2]
  ·rw[zIc hh];obtain⟨r,rs,h1,h2⟩:=zCE n (m+1) (P++[x]) (h::y::u) (by simp at hn ⊢;exact hn) (by simp at hm ⊢;exact Nat.le_of_lt hm) (by simp);refine⟨x::r,rs,by rw[h1];simp,?_⟩;rw[List.map_cons,show x::r=[x]++r from rfl,zDQ,zB0,←List.map_cons,h2];rw[prs,if_neg hh,zAh];simp[zA2,wr1]
theorem zFo:∀ {t:List Nat},45∉t→flatI E0 (prs t)=escE t
 | [],_=>rfl
 | [x],_=>by rw[prs,zAh];simp[wr1,flatI,zA2]
 | [x,h],_=>by rw[prs,zAh,zAh];simp[wr1,flatI,zA2]
 | x::h::y::u,hn=>by
  have hh:h≠45:=fun e=>hn (by simp[e]);rw[prs,if_neg hh,zAh,zFo fun e=>hn (List.mem_cons_of_mem _ e)];simp[wr1,zA2]
theorem zKb {t:List Nat}(h:45∉t):escE t=subst 92 [92,92] t:=by
 induction t with
 | nil=>rfl
 | cons c t ih=>
  have hc:c≠45:=fun e=>h (by simp[e]);have:=ih fun e=>h (by simp[e]);rw[zA2] at this ⊢;rw[List.flatMap_cons,this];show _=(if c=92 then [92,92] else [c])++subst 92 [92,92] t;unfold E0;simp only[hc,if_false]
noncomputable def flatB (E:Nat→List Nat)(s:List Nat):List Nat:=if s.head? = some 33 then 33::flatI E (prs (s.drop 1)) else flatI E (prs s)
set_option tactic.hygienic true in
theorem zKO {s:List Nat}(hs:s≠[])(hl:s.length≤5000):raw s=flatB E0 s:=by
 unfold raw flatB;by_cases h45:45∈s
 ·rw[if_pos h45];by_cases h33:s.head? = some 33
  ·rw[if_pos h33,if_pos h33];obtain⟨a,t,rfl⟩:∃ a t,s=a::t:=by cases s with | nil=>exact absurd rfl hs | cons a t=>exact⟨a,t,rfl⟩
   have ha:a=33:=by simpa using h33
   subst ha;obtain⟨r,rs,h1,h2⟩:=zCE t.length 100000 [33] t (zznlr _) (by simp at hl;exact zznlu hl (zznbl rfl)) (by simp);have h1':mrg (ckOf (33::t) 0 2)=(33::r)::rs:=h1;rw[h1',List.map_cons,show 33::r=[33]++r from rfl,zDQ,zB0,←List.map_cons,h2];rfl
  ·rw[if_neg h33,if_neg h33];obtain⟨r,rs,h1,h2⟩:=zCE s.length 100000 [] s (zznlr _) (zznlu hl (zznbl rfl)) (by simpa using hs);have h1':mrg (ckOf s 0 1)=r::rs:=h1;rw[h1',h2]
 ·rw[if_neg h45,←zKb h45];split
  ·rename_i h33;obtain⟨a,t,rfl⟩:∃ a t,s=a::t:=by cases s with | nil=>exact absurd rfl hs | cons a t=>exact⟨a,t,rfl⟩
   have ha:a=33:=by simpa using h33
   subst ha;rw[List.drop_one,List.tail_cons,zFo fun e=>h45 (List.mem_cons_of_mem _ e),zA2,zA2];rfl
  ·rw[zFo h45]
theorem zK7 {c:Nat}:isOp c=decide (c=38∨c=126∨c=124):=by
 unfold isOp;by_cases h1:c=38<;>by_cases h2:c=126<;>by_cases h3:c=124<;>simp[h1,h2,h3]
theorem zKa (c:Nat):esc (E0 c)=e1 c:=by
 unfold E0 e1;by_cases h1:c=92
 ·subst h1;rfl
 ·by_cases h2:c=45
  ·subst h2;rfl
  ·simp only[h1,h2,if_false,false_or];unfold esc;simp only[List.flatMap_cons,List.flatMap_nil,List.append_nil,zK7];by_cases h:c=38∨c=126∨c=124<;>simp[h]
theorem zH4 (l:List (Nat×Nat×Bool)):esc (flatI E0 l)=flatI e1 l:=by
 induction l with
 | nil=>rfl
 | cons i l ih=>
  rw[zAh,zAh,zBz,ih];congr 1;split
  ·unfold wr1;split
   ·rw[zBz,zKa,show 45::E0 i.2.1=[45]++E0 i.2.1 from rfl,zBz,zKa];rfl
   ·exact zKa _
  ·rfl
theorem zKp {s:List Nat}(hs:s≠[])(hl:s.length≤5000):bt s=wrapB (flatB e1 s):=by
 unfold bt;rw[zKO hs hl];congr 1;unfold flatB;split
 ·rw[show 33::flatI E0 (prs (s.drop 1))=[33]++flatI E0 (prs (s.drop 1)) from rfl,zBz,zH4];rfl
 ·exact zH4 _
theorem zFB {c:Nat}:∀ {l:List Nat} {a:Nat},(∀ i<a,l[i]?≠some c)→fi c l=(fi c (l.drop a)).map (·+a)
 | l,0,_=>by cases h:fi c l<;>simp[h]
 | [],a+1,_=>by simp[fi]
 | d::l,a+1,h=>by
  have hd:d≠c:=fun e=>h 0 (Nat.succ_pos _) (by simp[e]);rw[fi,if_neg hd,zFB (l:=l) (a:=a) fun i hi=>by simpa using h (i+1) (Nat.succ_lt_succ hi)];rw[List.drop_succ_cons,Option.map_map];congr 1
theorem zDg (w:List Nat):zAp w=(fi 93 (w.drop (if w[0]? = some 33 then 2 else 1))).map (·+(if w[0]? = some 33 then 2 else 1)):=by
 unfold zAp;by_cases h:w[0]? = some 33
 ·simp only[h,if_true];by_cases h2:w[1]? = some 93
  ·simp only[h2,if_true]
  ·simp only[h2,if_false];rw[zFB (l:=w.drop 1) (a:=1) fun i hi=>by
    have:i=0:=by exact Nat.sub_eq_zero_of_le hi
    subst this;simpa using h2]
   rw[List.drop_drop,Option.map_map];congr 1
 ·simp only[h,if_false];by_cases h2:w[0]? = some 93
  ·simp only[h2,if_true]
  ·simp only[h2,if_false];rw[zFB (l:=w.drop 0) (a:=1) fun i hi=>by
    have:i=0:=by exact Nat.sub_eq_zero_of_le hi
    subst this;simpa using h2]
   rw[List.drop_drop,Option.map_map];congr 1
section
variable {st qm:V}
end
theorem zKS {x y:Nat}{u:List Nat}:prs (x::45::y::u)=(x,y,true)::prs u:=by rw[prs,if_pos rfl]
theorem zMK {x:Nat}{u:List Nat}(h:¬(u[0]? = some 45∧2≤u.length)):prs (x::u)=(x,x,false)::prs u:=by
 match u,h with
 | [],_=>rfl
 | [z],_=>rfl
 | z::y::u,h=>
  have:z≠45:=fun e=>h ⟨by simp[e],by simp⟩;rw[prs,if_neg this]
end Mine.Internal
namespace Mine.Internal
theorem zGF {st qm:V}:∀ (n:Nat) (u:List Nat) (R:List V),u.length≤n→(trGo st qm u R).length≤R.length+u.length
 | n,[],R,_=>by rw[zBj];simp
 | 0,c::u,R,h=>by simp at h
 | n+1,c::u,R,h=>by
  have hu:u.length≤n:=by simpa using h
  have key:∀ (u':List Nat) (x:V),u'.length≤u.length→(trGo st qm u' (R++[x])).length≤R.length+(c::u).length:=fun u' x h'=>by
   have:=zGF (st:=st) (qm:=qm) n u' (R++[x]) (zznlt h' hu);simp at this ⊢;exact zn242 this h'
  rw[zAx];split
  ·split
   ·have:=zGF (st:=st) (qm:=qm) n u R hu;simp at this ⊢;exact Nat.le_succ_of_le this
   ·exact key u st (zznlr _)
  ·split
   ·exact key u qm (zznlr _)
   ·split
    ·split
     ·exact key _ _ (by simp)
     ·exact key _ _ (zznlr _)
    ·exact key _ _ (zznlr _)
set_option tactic.hygienic true in
theorem zH0 {c:Nat}:∀ {p:List Nat} {a:Nat},fi c p=some a→p=p.take a++c::p.drop (a+1)∧c∉p.take a
 | d::l,a,h=>by
  unfold fi at h;split at h
  ·rename_i e;cases h;simp[e]
  ·rename_i e;refine ze12 (Option.map_eq_some_iff.mp h) fun m hm z5=>?_;subst z5;refine ze02 (zH0 hm) fun h1 h2=>?_;refine⟨by rw[List.take_succ_cons,List.drop_succ_cons,List.cons_append,←h1],?_⟩;rw[List.take_succ_cons];intro hm;rcases List.mem_cons.mp hm with h | h
   ·exact e h.symm
   ·exact h2 h
noncomputable def cdOf (y:Int):Int:=if y<55296 then y else y+2048
theorem zLe (x:Int){m:Int}(hm:0<m):0≤x.fmod m∧x.fmod m<m:=⟨Int.fmod_nonneg_of_pos x hm,Int.fmod_lt_of_pos x hm⟩
theorem zNA {y:Int}(h:0≤y∧y<1112064):0≤cdOf y∧cdOf y≤1114111:=by unfold cdOf;split<;>lia
noncomputable def chOf (z:Int):Nat:=(cdOf (z.fmod 1112064)).toNat
theorem x_code {η:List Slot}{i:Nat}{z:Int}(h1:Rf (rdc η i=some (.int (z.fmod 1112064))))(h2:Rf (rd η i=some (.int (z.fmod 1112064)))):
  bnd (ite3 (t2 (nmC i) (kI 55296) ltV) (nmE i) (b2 (nmC i) (kI 2048) addV)) chrV η=some (.str [chOf z]):=by
 have hb:=zNA (zLe z (m:=1112064) (by decide));apply x_bnd (x:=.int (cdOf (z.fmod 1112064)))
 ·unfold cdOf;by_cases h:z.fmod 1112064<55296
  ·rw[if_pos h];exact zBA (x_t2 (x_nmC h1) x_kI o_ltI) (zzdet h) (x_nmE h2)
  ·rw[if_neg h];exact zBn (x_t2 (x_nmC h1) x_kI o_ltI) (zzdef h) (x_b2 (x_nmC h1) x_kI zOd)
 ·exact o_chr ⟨hb⟩
noncomputable def zJO:V→Bool
 | .int _=>true
 | _=>false
theorem ints_of:∀ {l:List V},l.all zJO=true→∃ ns:List Int,l=ns.map .int
 | [],_=>⟨[],rfl⟩
 | v::l,h=>by
  simp only[List.all_cons,Bool.and_eq_true] at h;refine ze11 (ints_of h.2) fun ns e=>?_;cases v with
  | int i=>exact⟨i::ns,by rw[e];rfl⟩
  | _=>exact absurd h.1 zzbft
noncomputable def zGk (l:List V):Bool:=l.all zJO&&decide (l.length≤63)
noncomputable def zFG:List V→Option V:=fun xs=>(arg1 xs).bind fun x=>(asLst x).bind fun l=>if zGk l=true then some (.bool true) else none
theorem zIu {ns:List Int}(h:ns.length≤63):zGk (ns.map .int)=true:=by
 have h1:(ns.map V.int).all zJO=true:=List.all_eq_true.mpr fun v hv=>by
  obtain⟨i,_,rfl⟩:=List.mem_map.mp hv;rfl
 have h2:(ns.map V.int).length≤63:=by simpa using h
 unfold zGk;rw[h1,decide_eq_true h2];rfl
theorem law_F {ns:List Int}(h:ns.length≤63):zFG [.lst (ns.map .int)]=some (.bool true):=by
 exact if_pos (zIu h)
theorem zJP {l:List V}(h:zGk l=true):∃ ns:List Int,l=ns.map .int∧ns.length≤63:=by
 unfold zGk at h;refine ze11 (ints_of (Bool.and_eq_true_iff.mp h).1) fun ns z6=>?_;subst z6;exact⟨ns,rfl,by simpa using zzode (Bool.and_eq_true_iff.mp h).2⟩
theorem zJF {xs:List V}{r:V}(h:zFG xs=some r):∃ ns:List Int,xs=[.lst (ns.map .int)]∧ns.length≤63∧.bool true=r:=by
 refine zbd h fun x h1 h=>?_;refine zbd h fun l h2 h=>?_;refine ze02 (zAl h) fun h3 h=>?_;refine ze12 (zJP h3) fun ns h4 hn=>?_;exact⟨ns,by rw[zFW h1,zGB h2,h4],hn,Option.some.inj h⟩
theorem zMQ {p:List Nat}{c a:Nat}:zGq (.str p) (.str [c]) (.int (a:Nat))=some (.int (posI a (fi c (p.drop a)))):=by
 show some (V.int (zAJ c (p.drop (zAN p.length a)) (zAN p.length a)))=_
 have e:zAN p.length (a:Int)=a:=by
  unfold zAN;have:¬((a:Int)<0):=by exact Int.not_lt.mpr (Int.natCast_nonneg _)
  simp[this]
 rw[e,zBF];cases fi c (p.drop a)<;>rfl
noncomputable def lastA (t:List Nat):List (List Nat)→List (List Nat)
 | []=>[]
 | [x]=>[x++t]
 | x::y::r=>x::lastA t (y::r)
theorem zHN {t x:List Nat}:∀ {A:List (List Nat)},lastA t (A++[x])=A++[x++t]
 | []=>rfl
 | [a]=>rfl
 | a::b::A=>by
  show a::lastA t ((b::A)++[x])=_;rw[zHN];rfl
end Mine.Internal
namespace Mine.Internal
section
variable {η:List Slot}
end
theorem zOc {a b:Nat}(h:Sd (b≠0))(h2:Sd (b<1000000)):fdivV (.int (a:Int)) (.int (b:Int))=some (.int ((a/b:Nat):Int)):=by
 have h0:(b:Int)≠0:=by have:=h.out;exact zn244 this
 have h3:(b:Int).natAbs<2^200:=Nat.lt_trans h2.out (by decide);have e:Int.fdiv (a:Int) (b:Int)=((a/b:Nat):Int):=by rw[Int.fdiv_eq_ediv_of_nonneg _ (Int.natCast_nonneg _)];rfl
 exact Eq.trans (if_pos ⟨h0,h3⟩) (by rw[e])
end Mine.Internal
namespace Mine.Internal
noncomputable def Out.valO:Out→Option V
 | .ret v=>some v
 | _=>none
noncomputable def zFK (B:SF)(η:List Slot):Option V:=(B η).bind fun r=>Out.valO r.1
theorem zIx {B:SF}{η:List Slot}{v:V}(h:Ret B η v):zFK B η=some v:=by
 refine ze11 h fun η' h=>?_;unfold zFK;rw[h];rfl
theorem zHb {B:SF}{η:List Slot}{v:V}(h:zFK B η=some v):∃ η',B η=some (.ret v,η'):=by
 obtain⟨⟨o,η'⟩,e,h⟩:=Option.bind_eq_some_iff.mp h;cases o with
 | ret w=>exact⟨η',by rw[e,←Option.some.inj h]⟩
 | _=>exact noneE h
open Classical in
noncomputable def ctr (P:List V→Prop)(B:SF)(n:Nat):List V→Option V:=fun xs=>if P xs then zFK B (xs.map .val++List.replicate n .undef) else none
theorem ctr_P {P:List V→Prop}{B:SF}{n:Nat}{xs:List V}{r:V}(h:ctr P B n xs=some r):P xs∧∃ η',B (xs.map .val++List.replicate n .undef)=some (.ret r,η'):=by
 unfold ctr at h;by_cases hp:P xs
 ·rw[if_pos hp] at h;exact⟨hp,zHb h⟩
 ·rw[if_neg hp] at h;cases h
theorem zCR {P:List V→Prop}{B:SF}{n:Nat}{xs:List V}{r:V}(hp:P xs)(h:Ret B (xs.map .val++List.replicate n .undef) r):ctr P B n xs=some r:=by
 unfold ctr;rw[if_pos hp,zIx h]
section
variable {l l':List (Option El)} {tl:List Slot}
theorem tg_T2 {i k:Nat}{x y:V}(hi:i<l.length)(hk:k<l.length):tgT [i,k] (.tup [x,y]) (fr l tl)=some (fr ((l.set i (vl x)).set k (vl y)) tl):=by
 have e:tgT [i,k] (.tup [x,y]) (fr l tl)=some (setS (setS (fr l tl) i (.val x)) k (.val y)):=rfl;rw[e,zBQ hi,zBQ (by simpa using hk)]
theorem s_unp {f:EF}{i k:Nat}{x y:V}(h:f (fr l tl)=some (.tup [x,y]))(hi:Rf (decide (i<l.length)=true))(hk:Rf (decide (k<l.length)=true))(hl:Rf ((l.set i (vl x)).set k (vl y)=l')):
  unpS f (tgT [i,k]) (fr l tl)=some (.next,fr l' tl):=by
 unfold unpS;rw[h];simp only[Option.bind_some];rw[tg_T2 (of_decide_eq_true hi.out) (of_decide_eq_true hk.out),hl.out];rfl
set_option tactic.hygienic true in
theorem zGD {α:Type}{as:List α}{q1 q2 h:α→V}{p:α→Bool}{i k:Nat}{fi ts fe}(hi:Rf (l[i]? = some none))(hk:Rf (l[k]? = some none))(hx:fi (fr l tl)=some (as.map fun a=>.tup [q1 a,q2 a]))(hl:Sd (as.length≤1000000))
  (ht:∀ a∈as,ts (fr ((l.set i (vl (q1 a))).set k (vl (q2 a))) tl)=some (p a)) (hg:∀ a∈as,p a=true→fe (fr ((l.set i (vl (q1 a))).set k (vl (q2 a))) tl)=some (h a)):
  compF [i,k] fi (tgT [i,k]) ts fe (fr l tl)=some ((as.filter p).map h):=by
 have hi1:=(List.getElem?_eq_some_iff.mp hi.out).1;have hk1:=(List.getElem?_eq_some_iff.mp hk.out).1;unfold compF;rw[if_pos (by simp[fr_at hi.out,fr_at hk.out,gE,Slot.isUndef]),hx];simp only[Option.bind_some];rw[if_pos (by rw[List.length_map];exact Nat.le_trans hl.out (by decide))];refine zFR fun a ha=>?_;unfold itemF;rw[tg_T2 hi1 hk1];simp only[Option.bind_some,ht a ha];split
 ·rename_i hp;rw[hg a ha hp];rfl
 ·rfl
theorem zLR {F:SF}{i:Nat}{x:List V}(h:l[i]? = some (ol x)):frz i F (fr l tl)=F (fr (l.set i (vl (.lst x))) tl):=by
 have h1:=List.getElem?_eq_some_iff.mp h;unfold frz;rw[zLQ h1.1,h1.2];simp only[Option.bind_some,El.ow_own];rw[zBQ h1.1]
theorem q_frz {F:SF}{i:Nat}{x:List V}{v:V}(h:Rf (l[i]? = some (ol x)))(hl:Rf (l.set i (vl (.lst x))=l'))(hr:Ret F (fr l' tl) v):Ret (frz i F) (fr l tl) v:=by
 refine ze11 hr fun η' e=>?_;clear hr;exact⟨η',by rw[zLR h.out,hl.out];exact e⟩
theorem s_frz {F:SF}{i:Nat}{x:List V}{r:Option (Out×List Slot)}(h:Rf (l[i]? = some (ol x)))(hl:Rf (l.set i (vl (.lst x))=l'))(hr:F (fr l' tl)=r):frz i F (fr l tl)=r:=by
 rw[zLR h.out,hl.out];exact hr
theorem ne_bb {a b:Bool}:neV (.bool a) (.bool b)=some (a != b):=by cases a<;>cases b<;>rfl
end
noncomputable def vPr (p:Nat×Nat):V:=.tup [.str [p.1],.str [p.2]]
inductive St where
 | w (s:List Nat)
 | one (neg:Bool) (ps:List (Nat×Nat))
noncomputable def St.v:St→V
 | .w s=>.str s
 | .one n ps=>.tup [.bool n,.lst (ps.map vPr)]
noncomputable def inP (ps:List (Nat×Nat))(c:Nat):Bool:=ps.any fun p=>decide (p.1≤c)&&decide (c≤p.2)
noncomputable def fit (s:Nat→Bool)(nm:List Nat)(p:Nat):Bool:=nm[p]?.any s
noncomputable def St.isW (l:List Nat):St→Bool
 | .w a=>decide (a=l)
 | .one _ _=>false
theorem eq_ts {xs:List V}{l:List Nat}(h:∀ v∈xs,noObj v=true):eqV (.tup xs) (.str l)=some false:=by
 refine Eq.trans (if_pos ?_) (congrArg some ?_)
 ·simp[noObj,dep,zAG h]
 ·simp[py,PyData.eqv]
theorem st_eq {s:St}{l:List Nat}:eqV s.v (.str l)=some (s.isW l):=by
 cases s with
 | w a=>exact o_eqS
 | one n ps=>
  refine eq_ts fun v hv=>?_;rcases List.mem_cons.mp hv with rfl | hv
  ·rfl
  ·rw[List.mem_singleton.mp hv];refine zAG fun w hw=>?_;refine ze12 (List.mem_map.mp hw) fun q _ z0=>?_;subst z0;rfl
noncomputable abbrev wHold:List Nat:=[104,111,108,100]
noncomputable abbrev wFree:List Nat:=[102,114,101,101]
noncomputable abbrev zDo:List Nat:=[108,101,97,115,116]
noncomputable abbrev wMost:List Nat:=[109,111,115,116]
noncomputable abbrev Sg:=List (Bool×List (Nat×Nat))
noncomputable def oneS (q:Bool×List (Nat×Nat)):St:=.one q.1 q.2
noncomputable def restS:List Sg→List St
 | []=>[]
 | seg::segs=>if segs=[] then .w wMost::seg.map oneS else .w wHold::.w zDo::(seg.map oneS++.w wFree::restS segs)
noncomputable def zAc {α:Type}:Bool→List (Option α)→List α×List (List α)
 | _,[]=>([],[])
 | _,some x::L=>(x::(zAc false L).1,(zAc false L).2)
 | st,none::L=>if st=true then zAc true L else ([],(zAc true L).1::(zAc true L).2)
/- _join_translated_parts: 7 slots {'inp': 0,'STAR': 1,'res': 2,'add': 3,'i': 4,'n': 5,'fixed': 6} comps [] counter None cells [] -/
noncomputable def zGr:List (Str×Nat):=[("inp",0),("STAR",1),("res",2),("add",3),("i",4),("n",5),("fixed",6)]
noncomputable def zFI:SF:=(seqS (appC 3 2 (b2 (nmC 0) (nmC 4) idxV))
 (seqS (aug 4 (kI 1))
 nilS))
noncomputable def zBS:List Slot→Option Bool:=(tAnd (t2 (nmC 4) (nmC 5) ltV) (tAnd (t2 (b2 (nmC 0) (nmC 4) idxV) (nmC 1) zDv) (kT true)))
noncomputable def zEm:SF:=(seqS (appS 6 (b2 (nmC 0) (nmC 4) idxV))
 (seqS (aug 4 (kI 1))
 nilS))
noncomputable def zDb:List Slot→Option Bool:=(tAnd (t2 (nmC 4) (nmC 5) ltV) (tAnd (t2 (b2 (nmC 0) (nmC 4) idxV) (nmC 1) zDv) (kT true)))
noncomputable def zFH:SF:=(seqS (zBh (t2 (b2 (nmC 0) (nmC 4) idxV) (nmC 1) isV))
 (seqS (aug 4 (kI 1))
 (seqS (ifS (t2 (nmC 4) (nmC 5) eqV) (seqS (appC 3 2 (kS [46,42]))
 (seqS brkS
 nilS)) nilS)
 (seqS (zBh (t2 (b2 (nmC 0) (nmC 4) idxV) (nmC 1) zDv))
 (seqS (zA6 (lstN kA0) 6)
 (seqS (zAk 100000 zDb zEm)
 (seqS (asg (b2 (kS []) (nmC 6) joinV) 6)
 (seqS (ifS (t2 (nmC 4) (nmC 5) eqV) (seqS (appC 3 2 (kS [46,42]))
 (seqS (appC 3 2 (nmE 6))
 nilS)) (seqS (appC 3 2 (fstrV (strE (kS [40,63,62,46,42,63]) (strE (fmtE (nmE 6)) (strE (kS [41]) kF0)))))
 nilS))
 nilS))))))))
noncomputable def zEl:List Slot→Option Bool:=(t2 (nmC 4) (nmC 5) ltV)
noncomputable def zH3:SF:=(seqS (zA6 (lstN kA0) 2)
 (seqS (zDU 3 2)
 (seqS (tupR [4,5] (bCons (bV (kI 0)) (bCons (bV (bnd (nmC 0) lenV)) kL0)))
 (seqS (zAk 100000 zBS zFI)
 (seqS (zAk 100000 zEl zFH)
 (seqS (zBh (t2 (nmC 4) (nmC 5) eqV))
 (seqS (asg (b2 (kS []) (nmC 2) joinV) 2)
 (seqS (retS (fstrV (strE (kS [40,63,115,58]) (strE (fmtE (nmE 2)) (strE (kS [41,92,90]) kF0)))))
 nilS))))))))
/- translate: 4 slots {'pat': 0,'STAR': 1,'parts': 2} comps [] counter 3 cells [] -/
noncomputable def zES:List (Str×Nat):=[("pat",0),("STAR",1),("parts",2)]
noncomputable def zA7 (s:List Nat):List (List Nat)→List (List Nat)
 | []=>[s]
 | x::r=>(s++x)::r
noncomputable def runsS:List V→List (List Nat)
 | []=>[[]]
 | .str s::l=>zA7 s (runsS l)
 | _::l=>[]::runsS l
noncomputable def zBa:List (List Nat)→List Nat
 | []=>[]
 | [x]=>[46,42]++x
 | x::y::r=>[40,63,62,46,42,63]++x++[41]++zBa (y::r)
noncomputable def textOf:List (List Nat)→List Nat
 | []=>[]
 | x::r=>x++zBa r
noncomputable def zAB (t:List Nat):List Nat:=[40,63,115,58]++t++[41,92,90]
noncomputable def apart (a:Nat):List V→Bool
 | .obj _::.obj _::_=>false
 | _::l=>apart a l
 | []=>true
noncomputable def okJ (a:Nat):V→Bool
 | .obj m=>decide (m=a)
 | .str _=>true
 | _=>false
noncomputable def wtV:V→Nat
 | .str s=>s.length
 | _=>0
noncomputable def sumW (l:List V):Nat:=(l.map wtV).sum
noncomputable def zH2:List V→Option V:=ctr (fun xs=>∃ l a,l.all (okJ a)=true∧apart a l=true∧l.length≤10000∧sumW l≤100000∧xs=[.lst l,.obj a]) zH3 5
noncomputable def zG3:SF:=(seqS (newS 1)
 (seqS (asg (bndL (aCons (nmE 0) (aCons (nmE 1) (aCons (kS [46]) kA0))) zET) 2)
 (seqS (retS (bndL (aCons (nmE 2) (aCons (nmE 1) kA0)) zH2))
 nilS)))
noncomputable abbrev jη (inp:List V)(a:Nat)(res:List V)(i n:Nat)(fx:Option El):List Slot:=[.val (.lst inp),.val (.obj a),.ownP res,.app 2,.val (.int (i:Nat)),.val (.int (n:Nat)),gE fx]
section
variable {inp:List V} {a:Nat} {res:List V} {i n:Nat} {fx:Option El}
theorem j_app {f:EF}{v:V}(h:f (jη inp a res i n fx)=some v)(hl:res.length<1000000):appC 3 2 f (jη inp a res i n fx)=some (.next,jη inp a (res++[v]) i n fx):=by
 have e:appC 3 2 f (jη inp a res i n fx)=appS 2 f (jη inp a res i n fx):=rfl;have e2:ownL (jη inp a res i n fx) 2=some res:=rfl;have hl2:res.length<sizeLine:=zznlv hl (by decide);rw[e];unfold appS;simp only[e2,Option.bind_some,h,hl2,if_true];rfl
theorem j_inc:aug 4 (kI 1) (jη inp a res i n fx)=some (.next,jη inp a res (i+1) n fx):=rfl
theorem j_set {e:El}:setS (jη inp a res i n fx) 6 e.slot=jη inp a res i n (some e):=by
 cases fx with
 | none=>rfl
 | some e'=>cases e'<;>rfl
theorem j_asg {f:EF}{v:V}(h:f (jη inp a res i n fx)=some v):asg f 6 (jη inp a res i n fx)=some (.next,jη inp a res i n (vl v)):=by rw[zCQ h];exact congrArg (fun x=>some (Out.next,x)) (j_set (e:=.val v))
theorem zOj {f:List Slot→Option (List V)}{v:List V}(h:f (jη inp a res i n fx)=some v):zA6 f 6 (jη inp a res i n fx)=some (.next,jη inp a res i n (ol v)):=by rw[zCP h];exact congrArg (fun x=>some (Out.next,x)) (j_set (e:=.own v))
theorem zOk {f:EF}{v:V}{l:List V}(h:f (jη inp a res i n (ol l))=some v)(hl:l.length<1000000):appS 6 f (jη inp a res i n (ol l))=some (.next,jη inp a res i n (ol (l++[v]))):=by
 have e2:ownL (jη inp a res i n (ol l)) 6=some l:=rfl;have hl2:l.length<sizeLine:=zznlv hl (by decide);unfold appS;simp only[e2,Option.bind_some,h,hl2,if_true];rfl
end
noncomputable def spS:List V→List (List Nat)
 | .str s::l=>s::spS l
 | _=>[]
theorem zCu:∀ {l:List V},runsS l=(spS l).flatten::(match l.drop (spS l).length with | []=>[] | _::r=>runsS r)
 | []=>rfl
 | v::l=>by
  cases v with
  | str s=>
   rw[runsS,zCu (l:=l)];rfl
  | _=>rfl
section
variable {inp:List V} {a:Nat} {n:Nat}
theorem zCl {l:List V}{i:Nat}{v:V}(h:inp.drop i=v::l):inp[i]? = some v∧i<inp.length∧inp.drop (i+1)=l:=by
 have hi:i<inp.length:=by
  by_cases q:i<inp.length
  ·exact q
  ·rw[List.drop_eq_nil_of_le (Nat.le_of_not_lt q)] at h;cases h
 rw[List.drop_eq_getElem_cons hi] at h;cases h;exact⟨zzlge hi,hi,rfl⟩
theorem zJK {res:List V}{i:Nat}{fx:Option El}(h:inp.length≤i):zBS (jη inp a res i inp.length fx)=some false:=by
 unfold zBS;apply zHo;refine x_t (b:=decide (i<inp.length)) (by exact x_t2 (x_nmC ⟨rfl⟩) (x_nmC ⟨rfl⟩) o_ltN) ?_;simp;exact h
theorem zJI {res:List V}{i:Nat}{fx:Option El}{s:List Nat}{l:List V}(h:inp.drop i=.str s::l):zBS (jη inp a res i inp.length fx)=some true:=by
 refine ze03 (zCl h) fun h1 h2 _=>?_;unfold zBS;refine x_t (b:=decide (i<inp.length)&&(!false&&true)) (by exact x_and (x_t2 (x_nmC ⟨rfl⟩) (x_nmC ⟨rfl⟩) o_ltN) (x_and (x_t2 (x_b2 (x_nmC ⟨rfl⟩) (x_nmC ⟨rfl⟩) (zA5 ⟨h1⟩)) (x_nmC ⟨rfl⟩) (zFq zLI)) x_kT)) ?_;simp[h2]
theorem zJJ {res:List V}{i:Nat}{fx:Option El}{l:List V}(h:inp.drop i=.obj a::l):zBS (jη inp a res i inp.length fx)=some false:=by
 refine ze03 (zCl h) fun h1 h2 _=>?_;unfold zBS;refine x_t (b:=decide (i<inp.length)&&(!decide (a=a)&&true)) (by exact x_and (x_t2 (x_nmC ⟨rfl⟩) (x_nmC ⟨rfl⟩) o_ltN) (x_and (x_t2 (x_b2 (x_nmC ⟨rfl⟩) (x_nmC ⟨rfl⟩) (zA5 ⟨h1⟩)) (x_nmC ⟨rfl⟩) (zFq zLJ)) x_kT)) ?_;simp
theorem zFe {l:List V}(h:l.all (okJ a)=true):(∃ s r,l=.str s::r)∨(l=[])∨∃ r,l=.obj a::r:=by
 cases l with
 | nil=>exact .inr (.inl rfl)
 | cons v r=>
  simp only[List.all_cons,Bool.and_eq_true] at h;cases v with
  | str s=>exact .inl ⟨s,r,rfl⟩
  | obj m=>
   have:m=a:=by simpa [okJ] using h.1
   subst this;exact .inr (.inr ⟨r,rfl⟩)
  | _=>exact absurd h.1 (by simp[okJ])
theorem zHR {fx:Option El}:∀ (m i:Nat) (res:List V) (l:List V),inp.drop i=l→l.length<m→l.all (okJ a)=true→res.length+l.length<1000000→
  zAk m zBS zFI (jη inp a res i inp.length fx)=some (.next,jη inp a (res++(spS l).map V.str) (i+(spS l).length) inp.length fx)
 | 0,_,_,_,_,h,_,_=>absurd h (Nat.not_lt_zero _)
 | m+1,i,res,l,hd,hm,hk,hz=>by
  rcases zFe hk with ⟨s,r,e⟩ | e | ⟨r,e⟩
  ·subst e;refine ze03 (zCl hd) fun h1 h2 h3=>?_;have hL:zFI (jη inp a res i inp.length fx)=some (.next,jη inp a (res++[.str s]) (i+1) inp.length fx):=by
    unfold zFI;apply s_seq
    ·exact j_app (v:=.str s) (by exact x_b2 (x_nmC ⟨rfl⟩) (x_nmC ⟨rfl⟩) (zA5 ⟨h1⟩)) (zznlu (zznar _ _) hz)
    ·exact s_seq j_inc (s_nil ⟨rfl⟩)
   rw[zAI (zJI hd) hL];simp only[List.length_cons] at hm hz;rw[zHR (fx:=fx) m (i+1) (res++[V.str s]) r h3 (Nat.lt_of_succ_lt_succ hm) (by simp only[List.all_cons,Bool.and_eq_true] at hk;exact hk.2) (by simp;exact zn28 hz)];simp[spS];exact zn58
  ·subst e;have hle:inp.length≤i:=List.drop_eq_nil_iff.mp hd;rw[zAy (zJK hle)];simp[spS]
  ·subst e;rw[zAy (zJJ hd)];simp[spS]
theorem zHQ {res:List V}:∀ (m i:Nat) (acc:List (List Nat)) (l:List V),inp.drop i=l→l.length<m→l.all (okJ a)=true→acc.length+l.length<1000000→
  zAk m zDb zEm (jη inp a res i inp.length (ol (acc.map V.str)))=some (.next,jη inp a res (i+(spS l).length) inp.length (ol ((acc++spS l).map V.str)))
 | 0,_,_,_,_,h,_,_=>absurd h (Nat.not_lt_zero _)
 | m+1,i,acc,l,hd,hm,hk,hz=>by
  rcases zFe hk with ⟨s,r,e⟩ | e | ⟨r,e⟩
  ·subst e;refine ze03 (zCl hd) fun h1 h2 h3=>?_;have hL:zEm (jη inp a res i inp.length (ol (acc.map V.str)))=some (.next,jη inp a res (i+1) inp.length (ol (acc.map V.str++[.str s]))):=by
    unfold zEm;apply s_seq
    ·exact zOk (v:=.str s) (by exact x_b2 (x_nmC ⟨rfl⟩) (x_nmC ⟨rfl⟩) (zA5 ⟨h1⟩)) (by simp;exact zznlu (zznar _ _) hz)
    ·exact s_seq j_inc (s_nil ⟨rfl⟩)
   have hT:zDb (jη inp a res i inp.length (ol (acc.map V.str)))=some true:=zJI hd;rw[zAI hT hL];simp only[List.length_cons] at hm hz;have e:acc.map V.str++[.str s]=(acc++[s]).map V.str:=by simp
   rw[e,zHQ (res:=res) m (i+1) (acc++[s]) r h3 (Nat.lt_of_succ_lt_succ hm) (by simp only[List.all_cons,Bool.and_eq_true] at hk;exact hk.2) (by simp;exact zn28 hz)];simp[spS];exact zn58
  ·subst e;have hle:inp.length≤i:=List.drop_eq_nil_iff.mp hd;have hT:zDb (jη inp a res i inp.length (ol (acc.map V.str)))=some false:=zJK hle;rw[zAy hT];simp[spS]
  ·subst e;have hT:zDb (jη inp a res i inp.length (ol (acc.map V.str)))=some false:=zJJ hd;rw[zAy hT];simp[spS]
end
theorem zFf:∀ l:List V,((spS l).map List.length).sum+sumW (l.drop (spS l).length)=sumW l
 | []=>rfl
 | v::l=>by
  cases v with
  | str s=>
   have:=zFf l;simp[spS,sumW,wtV] at this ⊢;exact zn245 this
  | _=>simp[spS]
theorem zFg:∀ l:List V,(spS l).length≤l.length
 | []=>by simp[spS]
 | v::l=>by
  cases v with
  | str s=>have:=zFg l;simp[spS];exact this
  | _=>simp[spS]
theorem zDJ {a:Nat}:∀ {l:List V},l.all (okJ a)=true→l.drop (spS l).length=[]∨∃ r,l.drop (spS l).length=.obj a::r
 | [],_=>.inl rfl
 | v::l,h=>by
  simp only[List.all_cons,Bool.and_eq_true] at h;cases v with
  | str s=>exact zDJ (l:=l) h.2
  | obj m=>
   have:m=a:=by simpa [okJ] using h.1
   subst this;exact .inr ⟨l,rfl⟩
  | _=>exact absurd h.1 (by simp[okJ])
theorem zDj {a:Nat}{v:V}{l:List V}(h:apart a (v::l)=true):apart a l=true:=by
 cases l with
 | nil=>rfl
 | cons w r=>
  cases v<;>cases w<;>first | exact h | (simp[apart] at h)
theorem zDk {a:Nat}:∀ {l:List V} (k:Nat),apart a l=true→apart a (l.drop k)=true
 | _,0,h=>h
 | [],k+1,h=>h
 | v::l,k+1,h=>zDk (l:=l) k (zDj h)
theorem zIi {p:V→Bool}{l:List V}(k:Nat)(h:l.all p=true):(l.drop k).all p=true:=by
 rw[List.all_eq_true] at h ⊢;exact fun v hv=>h v (List.mem_of_mem_drop hv)
noncomputable def tlT (l:List V):List Nat:=match l with
 | []=>[]
 | _::r=>zBa (runsS r)
theorem zHu (ls:List (List Nat)):(ls.map fun l=>l.length+([]:List Nat).length).sum=(ls.map List.length).sum:=by simp
section
variable {inp:List V} {a:Nat}
theorem zM7 {res:List (List Nat)}{i:Nat}{l:List V}{fx:Option El}(hd:inp.drop i=.obj a::l)(hk:l.all (okJ a)=true)(ha:apart a (.obj a::l)=true)(hw:sumW l≤100000)(hl:l.length≤10000)(hz:res.length≤100000):
  ∃ (o:Out) (fx':Option El) (out:List (List Nat)) (k:Nat),zFH (jη inp a (res.map V.str) i inp.length fx)=some (o,jη inp a ((res++out).map V.str) (i+1+k) inp.length fx')∧
   ((o=.brk∧l=[]∧k=0)∨(o=.next∧l≠[]∧k=(spS l).length))∧out.flatten++tlT (l.drop k)=zBa (runsS l)∧(out.map List.length).sum+sumW (l.drop k)≤sumW l+8∧out.length≤2:=by
 refine ze03 (zCl hd) fun h1 h2 h3=>?_;have hstart:∀ {G:SF} {r},G (jη inp a (res.map V.str) (i+1) inp.length fx)=r→seqS (zBh (t2 (b2 (nmC 0) (nmC 4) idxV) (nmC 1) isV)) (seqS (aug 4 (kI 1)) G) (jη inp a (res.map V.str) i inp.length fx)=r:=by
  intro G r h;refine s_seq (zJi ?_) (s_seq j_inc h);refine x_t (b:=decide (a=a)) (by exact x_t2 (x_b2 (x_nmC ⟨rfl⟩) (x_nmC ⟨rfl⟩) (zA5 ⟨h1⟩)) (x_nmC ⟨rfl⟩) zLJ) (by simp)
 unfold zFH;have hresz:(res.map V.str).length<1000000:=by simp;exact zznlu hz (zznbl rfl)
 by_cases hn:l=[]
 ·subst hn;have hlen:i+1=inp.length:=by
   have:=List.drop_eq_nil_iff.mp h3;exact Nat.le_antisymm h2 this
  refine⟨.brk,fx,[[46,42]],0,hstart ?_,.inl ⟨rfl,rfl,rfl⟩,by simp[tlT,runsS,zBa],by simp[sumW],by simp⟩;apply zLD;apply zAs (b:=decide (i+1=inp.length))
  ·exact x_t2 (x_nmC ⟨rfl⟩) (x_nmC ⟨rfl⟩) o_eqN
  ·simp[hlen]
  ·apply s_seq
   ·exact j_app (v:=.str [46,42]) (by exact x_kS) hresz
   ·apply zLD;rw[List.map_append];rfl
 ·have hlen:¬i+1=inp.length:=by
   intro e;have:inp.drop (i+1)=[]:=List.drop_eq_nil_of_le (Nat.le_of_eq e.symm);rw[h3] at this;exact hn this
  obtain⟨s,r,hsr⟩:∃ s r,l=.str s::r:=by
   rcases zFe hk with h | h | ⟨r,h⟩
   ·exact h
   ·exact absurd h hn
   ·subst h;simp[apart] at ha
  have hat:=zCl (h3.trans hsr);have h4:=zHQ (inp:=inp) (a:=a) (res:=res.map V.str) 100000 (i+1) [] l h3 (zznlu hl (zznbl rfl)) hk (by simp;exact zznlu hl (zznbl rfl));rw[List.nil_append] at h4;have hsum:=zFf l
  have hjoin:joinV (.str []) (.lst ((spS l).map V.str))=some (.str (spS l).flatten):=by
   rw[←zC7];exact zLH ⟨by rw[zHu];exact zn249 hsum hw⟩
  have hfl:(spS l).flatten.length≤100000:=by
   rw[List.length_flatten];exact zn250 hsum hw
  have hfx:∀ {G:SF} {r},G (jη inp a (res.map V.str) (i+1+(spS l).length) inp.length (vl (.str (spS l).flatten)))=r→
    seqS (ifS (t2 (nmC 4) (nmC 5) eqV) (seqS (appC 3 2 (kS [46,42])) (seqS brkS nilS)) nilS) (seqS (zBh (t2 (b2 (nmC 0) (nmC 4) idxV) (nmC 1) zDv)) (seqS (zA6 (lstN kA0) 6) (seqS (zAk 100000 zDb zEm) (seqS (asg (b2 (kS []) (nmC 6) joinV) 6) G)))) (jη inp a (res.map V.str) (i+1) inp.length fx)=r:=by
   intro G r' h;refine s_seq (zAi (b:=decide (i+1=inp.length)) (by exact x_t2 (x_nmC ⟨rfl⟩) (x_nmC ⟨rfl⟩) o_eqN) (by simp[hlen]) (s_nil ⟨rfl⟩)) ?_;refine s_seq (zJi (x_t (b:=!false) ?_ rfl)) ?_
   ·have g:=hat.1;exact x_t2 (x_b2 (x_nmC ⟨rfl⟩) (x_nmC ⟨rfl⟩) (zA5 ⟨g⟩)) (x_nmC ⟨rfl⟩) (zFq zLI)
   refine s_seq (zOj (v:=[]) (by exact zCo x_kA0 ⟨by simp⟩)) ?_;refine s_seq h4 ?_;refine s_seq (j_asg (v:=.str (spS l).flatten) (x_b2 (y:=.lst ((spS l).map V.str)) x_kS ?_ hjoin)) h;exact x_nmC ⟨rfl⟩
  have hrs:=zCu (l:=l);rcases zDJ hk with hr | ⟨r',hr⟩
  ·have hend:i+1+(spS l).length=inp.length:=by
    rw[←h3,List.drop_drop] at hr;have h5:=List.drop_eq_nil_iff.mp hr;have h6:=zFg l;have h7:l.length=inp.length-(i+1):=by rw[←h3];simp
    rw[h3] at h5;exact zn251 h2 h5 h6 h7
   rw[hr] at hrs hsum;refine⟨.next,vl (.str (spS l).flatten),[[46,42],(spS l).flatten],(spS l).length,hstart (hfx ?_),.inr ⟨rfl,hn,rfl⟩,?_,?_,by simp⟩
   ·apply s_seq
    ·apply zAs (b:=decide (i+1+(spS l).length=inp.length))
     ·exact x_t2 (x_nmC ⟨rfl⟩) (x_nmC ⟨rfl⟩) o_eqN
     ·simp[hend]
     ·apply s_seq
      ·exact j_app (v:=.str [46,42]) (by exact x_kS) hresz
      ·apply s_seq
       ·exact j_app (v:=.str (spS l).flatten) (by exact x_nmE ⟨rfl⟩) (by simp;exact zn252 hz)
       ·exact s_nil ⟨rfl⟩
    ·apply s_nil;exact⟨by simp⟩
   ·rw[hr,hrs];simp[tlT,zBa]
   ·rw[hr];simp[sumW,List.length_flatten] at hsum ⊢;exact zn253 hsum
  ·rw[hr] at hrs hsum;have hend:¬i+1+(spS l).length=inp.length:=by
    intro e;rw[←h3,List.drop_drop] at hr;rw[h3,List.drop_eq_nil_of_le (Nat.le_of_eq e.symm)] at hr;cases hr
   refine⟨.next,vl (.str (spS l).flatten),[[40,63,62,46,42,63]++((spS l).flatten++([41]++[]))],(spS l).length,hstart (hfx ?_),.inr ⟨rfl,hn,rfl⟩,?_,?_,by simp⟩
   ·apply s_seq
    ·apply zAi (b:=decide (i+1+(spS l).length=inp.length))
     ·exact x_t2 (x_nmC ⟨rfl⟩) (x_nmC ⟨rfl⟩) o_eqN
     ·simp[hend]
     ·apply s_seq
      ·exact j_app (v:=.str ([40,63,62,46,42,63]++((spS l).flatten++([41]++[])))) (by exact zIJ (zCn x_kS (zCn (x_fmt (x_nmE ⟨rfl⟩)) (zCn x_kS x_kF0))) ⟨by simp;exact zn255 hsum hw⟩) hresz
      ·exact s_nil ⟨rfl⟩
    ·apply s_nil;exact⟨by simp⟩
   ·obtain⟨y,ys,hy⟩:∃ y ys,runsS r'=y::ys:=⟨_,_,zCu⟩
    rw[hr,hrs];simp only[tlT];rw[hy];simp[zBa]
   ·rw[hr];simp[List.length_flatten] at hsum ⊢;exact zn256 hsum
end
section
variable {inp:List V} {a:Nat}
theorem zHP:∀ (m i:Nat) (res:List (List Nat)) (l:List V) (fx:Option El),inp.drop i=l→l.length<m→i≤inp.length→(l=[]∨∃ r,l=.obj a::r)→l.all (okJ a)=true→apart a l=true→sumW l≤100000→l.length≤10000→res.length+2*l.length≤90000→
  ∃ (fx':Option El) (out:List (List Nat)),zAk m zEl zFH (jη inp a (res.map V.str) i inp.length fx)=some (.next,jη inp a ((res++out).map V.str) inp.length inp.length fx')∧
   out.flatten=tlT l∧(out.map List.length).sum≤sumW l+8*l.length
 | 0,_,_,_,_,_,h,_,_,_,_,_,_,_=>absurd h (Nat.not_lt_zero _)
 | m+1,i,res,l,fx,hd,hm,hi,hs,hk,ha,hw,hl,hz=>by
  have hT:zEl (jη inp a (res.map V.str) i inp.length fx)=some (decide (i<inp.length)):=by unfold zEl;exact x_t2 (x_nmC ⟨rfl⟩) (x_nmC ⟨rfl⟩) o_ltN
  rcases hs with h | ⟨r,h⟩
  ·subst h;have hle:=List.drop_eq_nil_iff.mp hd;have:i=inp.length:=by exact Nat.le_antisymm hi hle
   subst this;refine⟨fx,[],?_,rfl,by simp⟩;rw[zAy (by rw[hT];simp)];simp
  ·subst h;have hat:=zCl hd;have hk2:r.all (okJ a)=true:=by simp only[List.all_cons,Bool.and_eq_true] at hk;exact hk.2
   simp only[List.length_cons] at hm hl hz;have hw2:sumW r≤100000:=by simpa [sumW,wtV] using hw
   obtain⟨o,fx',out,k,h1,h2,h3,h4,h5⟩:=zM7 (res:=res) (fx:=fx) hd hk2 ha hw2 (Nat.le_of_lt hl) (zn259 hz);have hT':zEl (jη inp a (res.map V.str) i inp.length fx)=some true:=by rw[hT];simp[hat.2.1]
   have hsw:sumW (.obj a::r)=sumW r:=by simp[sumW,wtV]
   rcases h2 with ⟨rfl,rfl,rfl⟩ | ⟨rfl,hne,rfl⟩
   ·rw[zGs hT' h1];have hlen:i+1=inp.length:=by
     have:=List.drop_eq_nil_iff.mp hat.2.2;lia
    refine⟨fx',out,by rw[Nat.add_zero,hlen],?_,?_⟩
    ·simpa [tlT] using h3
    ·simp[sumW] at h4 ⊢;exact zznlt h4 (zznal _ _)
   ·rw[zAI hT' h1];have hr:=zDJ hk2;have hll:=zFg r;have hdl:(r.drop (spS r).length).length=r.length-(spS r).length:=by simp
    have hps:1≤(spS r).length:=by
     rcases zFe hk2 with ⟨s,q,e⟩ | e | ⟨q,e⟩
     ·subst e;simp[spS]
     ·exact absurd e hne
     ·subst e;simp[apart] at ha
    have hsum:=zFf r
    obtain⟨fx2,out2,q1,q2,q3⟩:=zHP m (i+1+(spS r).length) (res++out) (r.drop (spS r).length) fx' (by rw[←List.drop_drop,hat.2.2]) (zn261 hm hdl) (by
      have:r.length=inp.length-(i+1):=by rw[←hat.2.2];simp
      exact zn262 hps hll this) hr (zIi _ hk2) (zDk _ (zDj ha)) (zn61 hsum hw2) (zn263 hl hdl) (by simp;exact zn264 hz h5)
    refine⟨fx2,out++out2,by rw[q1,List.append_assoc],?_,?_⟩
    ·rw[List.flatten_append,q2,h3];rfl
    ·rw[List.map_append,List.sum_append,List.length_cons,hsw];exact zn265 h4 hdl q3
theorem jn_B {l:List V}(hk:l.all (okJ a)=true)(ha:apart a l=true)(hl:l.length≤10000)(hw:sumW l≤100000):
  Ret zH3 [.val (.lst l),.val (.obj a),.undef,.undef,.undef,.undef,.undef] (.str (zAB (textOf (runsS l)))):=by
 have h1:=zHR (inp:=l) (a:=a) (fx:=none) 100000 0 [] l rfl (zznlu hl (zznbl rfl)) hk (by simp;exact zznlu hl (zznbl rfl));have hsum:=zFf l;have hlen:=zFg l;obtain⟨fx',out,h2,h3,h4⟩:=zHP (inp:=l) (a:=a) 100000 (0+(spS l).length) (spS l) (l.drop (spS l).length) none (by simp) (by simp;exact zn266 hl) (zn267 hlen) (zDJ hk) (zIi _ hk) (zDk _ ha) (zn61 hsum hw) (by simp;exact zznlt hl (zznar _ _)) (by simp;exact zn269 hl hlen);unfold zH3;refine q_seq (η1:=[.val (.lst l),.val (.obj a),.own [],.undef,.undef,.undef,.undef]) rfl ?_;refine q_seq (η1:=[.val (.lst l),.val (.obj a),.ownP [],.app 2,.undef,.undef,.undef]) rfl ?_;refine q_seq (η1:=jη l a [] 0 l.length none) rfl ?_;refine q_seq h1 ?_;rw[List.nil_append];refine q_seq h2 ?_;refine q_seq (zJi (x_t (b:=decide (l.length=l.length)) (by exact x_t2 (x_nmC ⟨rfl⟩) (x_nmC ⟨rfl⟩) o_eqN) (by simp))) ?_;have hfl:(spS l++out).flatten=textOf (runsS l):=by
  rw[List.flatten_append,h3,zCu (l:=l)];cases l.drop (spS l).length<;>rfl
 have hjs:((spS l++out).map List.length).sum≤500000:=by
  rw[List.map_append,List.sum_append];have:(l.drop (spS l).length).length≤l.length:=by simp
  exact zn270 hl hw hsum h4 this
 refine q_seq (η1:=[.val (.lst l),.val (.obj a),.val (.str (textOf (runsS l))),.undef,.val (.int (l.length:Nat)),.val (.int (l.length:Nat)),gE fx']) ?_ ?_
 ·rw[zCQ (v:=.str (textOf (runsS l))) ?_]
  ·cases fx' with
   | none=>rfl
   | some e=>cases e<;>rfl
  ·refine x_b2 (x:=.str []) (y:=.lst ((spS l++out).map V.str)) x_kS rfl ?_;rw[←hfl,←zC7];exact zLH ⟨by rw[zHu];exact zznlt hjs (zznal _ _)⟩
 apply zBv;apply q_ret;have ht:(textOf (runsS l)).length≤500000:=by rw[←hfl,List.length_flatten];exact hjs
 have e:zAB (textOf (runsS l))=[40,63,115,58]++(textOf (runsS l)++([41,92,90]++[])):=by simp[zAB]
 rw[e];refine zIJ (zCn x_kS (zCn (x_fmt rfl) (zCn x_kS x_kF0))) ⟨?_⟩;simp;exact zznlt ht (zznal _ _)
end
theorem zEw {a:Nat}{x:V}:∀ {R:List V},apart a R=true→(∀ m k,R.getLast? = some (.obj m)→x=.obj k→False)→apart a (R++[x])=true
 | [],_,_=>by cases x<;>rfl
 | [v],_,h=>by
  cases v with
  | obj m=>
   cases x with
   | obj k=>exact(h m k rfl rfl).elim
   | _=>rfl
  | _=>cases x<;>rfl
 | v::w::r,ha,h=>by
  have ht:=zEw (R:=w::r) (zDj ha) (fun m k e=>h m k (by rw[List.getLast?_cons_cons];exact e));cases v with
  | obj m=>
   cases w with
   | obj k=>simp[apart] at ha
   | _=>exact ht
  | _=>exact ht
theorem zJs {a:Nat}{x:V}{R:List V}(h:R.all (okJ a)=true)(hx:okJ a x=true):(R++[x]).all (okJ a)=true:=by simp[h,hx]
structure PtOk (a:Nat)(R:List V):Prop where
 all:R.all (okJ a)=true
 apart:apart a R=true
theorem PtOk.str {a:Nat}{R:List V}(h:PtOk a R)(s:List Nat):PtOk a (R++[.str s]):=⟨zJs h.all rfl,zEw h.apart fun _x _x _x e=>by cases e⟩
theorem PtOk.star {a:Nat}{R:List V}(h:PtOk a R)(hl:zAL (.obj a) R=false):PtOk a (R++[.obj a]):=by
 refine⟨zJs h.all (by simp[okJ]),zEw h.apart fun m k e _x=>?_⟩;have hm:=List.all_eq_true.mp h.all _ (List.mem_of_getLast? e);have:m=a:=by simpa [okJ] using hm
 subst this;unfold zAL at hl;rw[e] at hl;exact absurd (hl.symm.trans (zzdet rfl)) zzbft
set_option tactic.hygienic true in
theorem PtOk.go {a:Nat}{q:List Nat}:∀ (n:Nat) (u:List Nat) {R:List V},u.length≤n→PtOk a R→PtOk a (trGo (.obj a) (.str q) u R)
 | n,[],R,_,h=>by rw[zBj];exact h
 | 0,c::u,R,h,_=>by simp at h
 | n+1,c::u,R,h,hR=>by
  have hu:u.length≤n:=by simpa using h
  rw[zAx];split
  ·split
   ·exact PtOk.go n u hu hR
   ·rename_i hl;exact PtOk.go n u hu (hR.star (by simpa using hl))
  ·split
   ·exact PtOk.go n u hu (hR.str q)
   ·split
    ·split
     ·exact PtOk.go n _ (by simp;exact zznlt hu (zznar _ _)) (hR.str _)
     ·exact PtOk.go n u hu (hR.str _)
    ·exact PtOk.go n u hu (hR.str _)
theorem zKE {R:List V}{s:List Nat}:sumW (R++[.str s])=sumW R+s.length:=by simp[sumW,wtV]
theorem zKD {R:List V}{a:Nat}:sumW (R++[.obj a])=sumW R:=by simp[sumW,wtV]
theorem zFY (i:Nat×Nat×Bool):(if i.1≤i.2.1 then wr1 e1 i else []).length≤5:=by
 have h:∀ c,(e1 c).length≤2:=fun c=>by unfold e1;split<;>simp
 have h1:=h i.1;have h2:=h i.2.1;split
 ·unfold wr1;split
  ·rw[List.length_append,List.length_cons];exact zznlu (Nat.add_le_add h1 h2) (zznbl rfl)
  ·exact zznlt h1 (zznal _ _)
 ·exact Nat.zero_le _
theorem zFz:∀ (n:Nat) (t:List Nat),t.length≤n→(flatI e1 (prs t)).length≤5*t.length
 | n,[],_=>by simp[prs,flatI]
 | n,[x],_=>by
  have h:=zFY (x,x,false);rw[prs,zAh];simp[flatI] at h ⊢;exact h
 | n,[x,y],_=>by
  have h:=zFY (x,x,false);have h2:=zFY (y,y,false);rw[prs,zAh,zAh];simp[flatI] at h h2 ⊢;exact Nat.add_le_add h h2
 | 0,x::h::y::u,hn=>by simp at hn
 | n+1,x::h::y::u,hn=>by
  simp at hn;rw[prs];split
  ·have h1:=zFY (x,y,true);have h2:=zFz n u (Nat.le_of_succ_le (Nat.le_of_succ_le hn));rw[zAh,List.length_append];simp only[List.length_cons];lia
  ·have h1:=zFY (x,x,false);have h2:=zFz n (h::y::u) (by simp;exact hn);rw[zAh,List.length_append];simp only[List.length_cons] at h2 ⊢;lia
theorem zKx (t:List Nat):(wrapB t).length≤t.length+4:=by
 unfold wrapB;split
 ·simp
 ·split
  ·split<;>simp
  ·split<;>simp
set_option tactic.hygienic true in
theorem bt_le {s:List Nat}(hs:s≠[])(hl:s.length≤5000):(bt s).length≤5*s.length+5:=by
 rw[zKp hs hl];have h1:=zKx (flatB e1 s);have h2:=zFz _ (s.drop 1) (zznlr _);have h3:=zFz _ s (zznlr _);simp only[List.length_drop] at h2;have:1≤s.length:=List.length_pos_iff.mpr hs;unfold flatB at h1 ⊢;split at h1
 ·rename_i h;rw[if_pos h];rw[List.length_cons] at h1;exact zn277 h1 h2
 ·rename_i h;rw[if_neg h];exact zn278 h3 h1
theorem zEr {w:List Nat}{j:Nat}(h:zAp w=some j):1≤j:=by
 rw[zDg] at h;refine ze12 (Option.map_eq_some_iff.mp h) fun m hm hm2=>?_;have:(if w[0]? = some 33 then 2 else 1)≥1:=by split<;>lia
 exact zn279 hm2 this
theorem zGG {w:List Nat}{j:Nat}(h:zAp w=some j):w.take j≠[]:=by
 have h1:=zEr h;have h2:=zDf h;intro e;have:=congrArg List.length e;rw[List.length_take,List.length_nil] at this;exact zn280 this h1 h2
theorem zIS (c:Nat):(zAX specials c).length≤2:=by unfold zAX;split<;>simp
set_option tactic.hygienic true in
theorem zDH {a:Nat}{q:List Nat}(hq:q.length≤5):∀ (n:Nat) (u:List Nat) (R:List V),u.length≤n→u.length≤5000→sumW (trGo (.obj a) (.str q) u R)≤sumW R+6*u.length
 | n,[],R,_,_=>by rw[zBj];simp
 | 0,c::u,R,h,_=>by simp at h
 | n+1,c::u,R,h,hz=>by
  simp only[List.length_cons] at h hz ⊢;have key:∀ (u':List Nat) (s:List Nat),u'.length≤u.length→s.length+6*u'.length≤6*(u.length+1)→sumW (trGo (.obj a) (.str q) u' (R++[.str s]))≤sumW R+6*(u.length+1):=fun u' s h1 h2=>by
   have:=zDH (a:=a) hq n u' (R++[.str s]) (zn281 h h1) (zn282 h2 hz);rw[zKE] at this;exact zn283 h2 this
  rw[zAx];split
  ·split
   ·have:=zDH (a:=a) hq n u R (Nat.le_of_lt_succ h) (Nat.le_of_lt hz);exact zn64 this
   ·have:=zDH (a:=a) hq n u (R++[.obj a]) (Nat.le_of_lt_succ h) (Nat.le_of_lt hz);rw[zKD] at this;exact zn64 this
  ·split
   ·exact key u q (zznlr _) (zn284 hq)
   ·split
    ·split
     ·rename_i j hj;have h1:=zDf hj;have h2:=bt_le (zGG hj) (by simp;exact zn285 hz);have h3:(u.take j).length≤j:=by simp;exact Nat.min_le_left _ _
      exact key _ _ (by simp) (by simp only[List.length_drop];exact zn286 h1 h2 h3)
     ·exact key u _ (zznlr _) (by simp;exact zn287)
    ·have:=zIS c;exact key u _ (zznlr _) (zn288 this)
theorem zFj {R:List V}:∃ x r,runsS R=x::r:=⟨_,_,zCu⟩
theorem zGu {s t:List Nat}{X:List (List Nat)}(h:∃ x r,X=x::r):zA7 s (lastA t X)=lastA t (zA7 s X):=by
 refine ze21 h fun x r z1=>?_;clear h;subst z1;cases r with
 | nil=>simp[lastA,zA7]
 | cons y r=>rfl
theorem zCx {t:List Nat}:∀ {R:List V},runsS (R++[.str t])=lastA t (runsS R)
 | []=>by simp[runsS,zA7,lastA]
 | v::R=>by
  have ih:=zCx (t:=t) (R:=R);cases v with
  | str s=>
   show zA7 s (runsS (R++[.str t]))=lastA t (zA7 s (runsS R));rw[ih,zGu zFj]
  | _=>
   show []::runsS (R++[.str t])=lastA t ([]::runsS R);rw[ih];refine ze21 (zFj (R:=R)) fun x r h=>?_;rw[h];rfl
theorem zCy {a:Nat}:∀ {R:List V},runsS (R++[.obj a])=runsS R++[[]]
 | []=>rfl
 | v::R=>by
  have ih:=zCy (a:=a) (R:=R);cases v with
  | str s=>
   show zA7 s (runsS (R++[.obj a]))=zA7 s (runsS R)++[[]];rw[ih];refine ze21 (zFj (R:=R)) fun x r h=>?_;rw[h];rfl
  | _=>
   show []::runsS (R++[.obj a])=[]::runsS R++[[]];rw[ih];rfl
theorem zC5 {st:V}{R:List V}{s:List Nat}:zAL st (R++[.str s])=false:=zEd
theorem zC6 {a:Nat}{R:List V}:zAL (.obj a) (R++[.obj a])=true:=zEd.trans (zzdet rfl)
theorem zDI {a b:Nat}{q:List Nat}:∀ (n:Nat) (u:List Nat) (R R':List V),u.length≤n→runsS R=runsS R'→zAL (.obj a) R=zAL (.obj b) R'→runsS (trGo (.obj a) (.str q) u R)=runsS (trGo (.obj b) (.str q) u R')
 | n,[],R,R',_,h,_=>by rw[zBj,zBj];exact h
 | 0,c::u,R,R',h,_,_=>by simp at h
 | n+1,c::u,R,R',h,h1,h2=>by
  have hu:u.length≤n:=by simpa using h
  have key:∀ (u' s:List Nat),u'.length≤n→runsS (trGo (.obj a) (.str q) u' (R++[.str s]))=runsS (trGo (.obj b) (.str q) u' (R'++[.str s])):=fun u' s hu'=>
   zDI n u' _ _ hu' (by rw[zCx,zCx,h1]) (by rw[zC5,zC5])
  rw[zAx,zAx,h2];split
  ·split
   ·exact zDI n u R R' hu h1 h2
   ·exact zDI n u _ _ hu (by rw[zCy,zCy,h1]) (by rw[zC6,zC6])
  ·split
   ·exact key u q hu
   ·split
    ·cases zAp u with
     | none=>exact key u _ hu
     | some j=>exact key _ _ (by simp;exact zznlt hu (zznar _ _))
    ·exact key u _ hu
noncomputable def rnOf (p:List Nat):List (List Nat):=runsS (trGo (.obj 0) (.str [46]) p [])
noncomputable def zEh:List V→Option V:=fun xs=>(arg1 xs).bind fun x=>(asStr x).bind fun p=>if p.length≤5000 then some (.str (zAB (textOf (rnOf p)))) else none
theorem zIR {xs:List V}{r:V}(h:zEh xs=some r):∃ p,xs=[.str p]∧p.length≤5000∧.str (zAB (textOf (rnOf p)))=r:=by
 refine zbd h fun x h1 h=>?_;refine zbd h fun p h2 h=>?_;refine ze02 (zAl h) fun h3 h=>?_;exact⟨p,by rw[zFW h1,zAv h2],h3,Option.some.inj h⟩
theorem trn_B {p:List Nat}{n:Nat}(hp:p.length≤5000):Ret zG3 (fr [vl (.str p),none,none] [.cnt n]) (.str (zAB (textOf (rnOf p)))):=by
 have h1:zET [.str p,.obj n,.str [46]]=some (.lst (trGo (.obj n) (.str [46]) p [])):=by
  show (if _ then _ else _)=_;rw[if_pos ⟨hp,rfl⟩]
 have hP:PtOk n (trGo (.obj n) (.str [46]) p []):=PtOk.go p.length p (zznlr _) ⟨rfl,rfl⟩
 have h2:zH2 [.lst (trGo (.obj n) (.str [46]) p []),.obj n]=some (.str (zAB (textOf (rnOf p)))):=by
  have l1:=zGF (st:=.obj n) (qm:=.str [46]) p.length p [] (zznlr _);have l2:=zDH (a:=n) (q:=[46]) (by simp) p.length p [] (zznlr _) hp;have e:runsS (trGo (.obj n) (.str [46]) p [])=rnOf p:=zDI p.length p [] [] (zznlr _) rfl rfl;rw[←e];exact zCR ⟨_,_,hP.all,hP.apart,by simp at l1;exact zn66 hp l1,by simp[sumW] at l2 ⊢;exact zn67 l2 hp,rfl⟩ (jn_B hP.all hP.apart (by simp at l1;exact zn66 hp l1) (by simp[sumW] at l2 ⊢;exact zn67 l2 hp))
 unfold zG3;apply q_seq
 ·apply s_new
  ·exact⟨rfl⟩
  ·exact⟨rfl⟩
 apply q_seq
 ·apply s_asg
  ·apply zA4
   ·exact zAb (x_nmE ⟨rfl⟩) (zAb (x_nmE ⟨rfl⟩) (zAb x_kS x_kA0))
   ·exact h1
  ·exact⟨rfl⟩
  ·exact⟨rfl⟩
 apply zBv;apply q_ret;apply zA4
 ·exact zAb (x_nmE ⟨rfl⟩) (zAb (x_nmE ⟨rfl⟩) x_kA0)
 ·exact h2
/- _law_one: 3 slots {'text': 0,'k': 1,'sign': 2} comps [] counter None cells [] -/
noncomputable def zEV:List (Str×Nat):=[("text",0),("k",1),("sign",2)]
noncomputable def zFF:SF:=(seqS (asg (s3 (nmC 0) (b2 (nmC 1) (kI 1) addV) (b2 (nmC 1) (kI 2) addV)) 2)
 (seqS (ifS (t2 (s3 (nmC 0) (nmE 1) (b2 (nmC 1) (kI 1) addV)) (kS [92]) neV) (seqS (retS (tupE (aCons (s3 (nmC 0) (nmE 1) (b2 (nmC 1) (kI 1) addV)) (aCons (b2 (nmC 1) (kI 1) addV) kA0))))
 nilS) nilS)
 (seqS (retS (tupE (aCons (ite3 (t2 (nmC 2) (kS [48,49,50,51,52,53,54,55,56,57,97,98,99,100,101,102,103,104,105,106,107,108,109,110,111,112,113,114,115,116,117,118,119,120,121,122,65,66,67,68,69,70,71,72,73,74,75,76,77,78,79,80,81,82,83,84,85,86,87,88,89,90]) inV) (kS []) (nmE 2)) (aCons (b2 (nmC 1) (kI 2) addV) kA0))))
 nilS)))
noncomputable abbrev alnum:List Nat:=[48,49,50,51,52,53,54,55,56,57,97,98,99,100,101,102,103,104,105,106,107,108,109,110,111,112,113,114,115,116,117,118,119,120,121,122,65,66,67,68,69,70,71,72,73,74,75,76,77,78,79,80,81,82,83,84,85,86,87,88,89,90]
theorem zFi {α:Type}{T:List α}{k n:Nat}:(T.take (k+n)).drop k=(T.drop k).take n:=by rw[List.drop_take,Nat.add_sub_cancel_left]
theorem zHy {α:Type}{T:List α}{k n:Nat}:(T.take (k+(n+1))).drop (k+1)=((T.drop k).drop 1).take n:=by
 rw[List.drop_drop,List.drop_take,show k+(n+1)-(k+1)=n by exact zn289]
inductive OneAt (T:List Nat)(k c:Nat):Nat→Prop
 | bare {r:List Nat} (h:T.drop k=c::r) (hc:c≠92):OneAt T k c (k+1)
 | esc {r:List Nat} (h:T.drop k=92::c::r) (hc:c∉alnum):OneAt T k c (k+2)
theorem one_B {T:List Nat}{k c k':Nat}(h:OneAt T k c k'):Ret zFF (fr [vl (.str T),vl (.int (k:Nat)),none] []) (.tup [.str [c],.int (k':Nat)]):=by
 have h1:∀ {x:Option El},(s3 (nmC 0) (nmE 1) (b2 (nmC 1) (kI 1) addV)) (fr [vl (.str T),vl (.int (k:Nat)),x] [])=some (.str ((T.drop k).take 1)):=fun {_}=>Eq.trans (x_s3 (x_nmC ⟨rfl⟩) (x_nmE ⟨rfl⟩) (x_b2 (x_nmC ⟨rfl⟩) x_k1 zAm) o_slS) (by rw[zFi]);have h2:(s3 (nmC 0) (b2 (nmC 1) (kI 1) addV) (b2 (nmC 1) (kI 2) addV)) (fr [vl (.str T),vl (.int (k:Nat)),none] [])=some (.str (((T.drop k).drop 1).take 1)):=Eq.trans (x_s3 (x_nmC ⟨rfl⟩) (x_b2 (x_nmC ⟨rfl⟩) x_k1 zAm) (x_b2 (x_nmC ⟨rfl⟩) x_k2 zAm) o_slS) (by rw[show k+2=k+(1+1) from rfl,zHy]);unfold zFF;refine q_seq (s_asg h2 ⟨rfl⟩ ⟨rfl⟩) ?_;cases h with
 | bare h hc=>
  rw[h] at h1;exact zBv (zN6 (x_t2 h1 x_kS (o_ne o_eqS)) (by
   show (!decide ([c]=[92]))=true;rw[decide_eq_false (fun e=>hc (List.cons.inj e).1)];rfl) (zBv (q_ret (x_tup (zAb h1 (zAb (x_b2 (x_nmC ⟨rfl⟩) x_k1 zAm) x_kA0)) ⟨zznbl rfl⟩))))
 | esc h hc=>
  rw[h] at h1;refine q_seq (zAi (x_t2 h1 x_kS (o_ne o_eqS)) (show (!decide (([92]:List Nat)=[92]))=false from rfl) (s_nil ⟨rfl⟩)) (zBv (q_ret (x_tup (zAb (zBn (x_t2 (x_nmC ⟨by rw[h];rfl⟩) x_kS o_in1) (zzdef hc) (x_nmE ⟨by rw[h];rfl⟩)) (zAb (x_b2 (x_nmC ⟨rfl⟩) x_k2 zAm) x_kA0)) ⟨zznbl rfl⟩)))
noncomputable def zCk:List V→Option V:=ctr (fun xs=>∃ T,∃ k:Nat,∃ c k',OneAt T k c k'∧xs=[.str T,.int (k:Int)]) zFF 1
theorem one_F {T:List Nat}{k c k':Nat}(h:OneAt T k c k'):zCk [.str T,.int (k:Int)]=some (.tup [.str [c],.int (k':Nat)]):=zCR ⟨T,k,c,k',h,rfl⟩ (one_B h)
/- _law_set: 6 slots {'text': 0,'k': 1,'barred': 2,'pairs': 3,'high': 4,'low': 5} comps [] counter None cells [] -/
noncomputable def zEU:List (Str×Nat):=[("text",0),("k",1),("barred",2),("pairs",3),("high",4),("low",5)]
noncomputable def zB1:SF:=(seqS (unpS (bndL (aCons (nmE 0) (aCons (nmE 1) kA0)) zCk) (tgT [5,1]))
 (seqS (asg (nmE 5) 4)
 (seqS (ifS (tAnd (t2 (s3 (nmC 0) (nmE 1) (b2 (nmC 1) (kI 1) addV)) (kS [45]) eqV) (tAnd (t2 (s3 (nmC 0) (b2 (nmC 1) (kI 1) addV) (b2 (nmC 1) (kI 2) addV)) (kS [93]) neV) (kT true))) (seqS (unpS (bndL (aCons (nmE 0) (aCons (b2 (nmC 1) (kI 1) addV) kA0)) zCk) (tgT [4,1]))
 nilS) nilS)
 (seqS (ifS (tOr (t2 (nmC 5) (kS []) eqV) (tOr (t2 (nmC 4) (nmC 5) ltV) (kT false))) (seqS (retS (tupE (aCons kN (aCons (nmE 1) kA0))))
 nilS) nilS)
 (seqS (appS 3 (tupE (aCons (nmE 5) (aCons (nmE 4) kA0))))
 nilS)))))
noncomputable def zFC:List Slot→Option Bool:=(tOr (t2 (s3 (nmC 0) (nmE 1) (b2 (nmC 1) (kI 1) addV)) (kS [93]) neV) (tOr (t2 (nmC 3) (lstE kA0) eqV) (kT false)))
noncomputable def zFE:SF:=(seqS (tupR [2,3] (bCons (bV (booE (t2 (s3 (nmC 0) (nmE 1) (b2 (nmC 1) (kI 1) addV)) (kS [94]) eqV))) (bCons (bO (lstN kA0)) kL0)))
 (seqS (aug 1 (ite3 (tT (nmC 2)) (kI 1) (kI 0)))
 (seqS (zAk 100000 zFC zB1)
 (seqS (frz 3 (retS (tupE (aCons (tupE (aCons (nmE 2) (aCons (nmE 3) kA0))) (aCons (b2 (nmC 1) (kI 1) addV) kA0)))))
 nilS))))
noncomputable def vQ (p:Nat×Nat):V:=.tup [.str [p.1],.str [p.2]]
inductive SetAt (T:List Nat):Bool→Nat→List (Nat×Nat)→Nat→Prop
 | done {k:Nat} {r:List Nat} (h:T.drop k=93::r):SetAt T false k [] k
 | one {b:Bool} {k k1 k' c:Nat} {ps:List (Nat×Nat)} (hb:b=true∨(T.drop k).take 1≠[93]) (h:OneAt T k c k1) (hn:¬((T.drop k1).take 1=[45]∧((T.drop k1).drop 1).take 1≠[93])) (hr:SetAt T false k1 ps k'):SetAt T b k ((c,c)::ps) k'
 | rng {b:Bool} {k k1 k2 k' lo hi:Nat} {ps:List (Nat×Nat)} (hb:b=true∨(T.drop k).take 1≠[93]) (h:OneAt T k lo k1) (hy:(T.drop k1).take 1=[45]∧((T.drop k1).drop 1).take 1≠[93]) (h2:OneAt T (k1+1) hi k2) (hle:lo≤hi) (hr:SetAt T false k2 ps k'):SetAt T b k ((lo,hi)::ps) k'
noncomputable abbrev seF (T:List Nat)(k:Nat)(ba:Option El)(ps:List (Nat×Nat))(hi lo:Option El):List Slot:=fr [vl (.str T),vl (.int (k:Nat)),ba,ol (ps.map vQ),hi,lo] []
section
variable {T:List Nat} {k:Nat} {ba hi lo:Option El} {ps:List (Nat×Nat)}
theorem se_sl:(s3 (nmC 0) (nmE 1) (b2 (nmC 1) (kI 1) addV)) (seF T k ba ps hi lo)=some (.str ((T.drop k).take 1)):=Eq.trans (x_s3 (x_nmC ⟨rfl⟩) (x_nmE ⟨rfl⟩) (x_b2 (x_nmC ⟨rfl⟩) x_k1 zAm) o_slS) (by rw[zFi])
theorem zN2:(s3 (nmC 0) (b2 (nmC 1) (kI 1) addV) (b2 (nmC 1) (kI 2) addV)) (seF T k ba ps hi lo)=some (.str (((T.drop k).drop 1).take 1)):=Eq.trans (x_s3 (x_nmC ⟨rfl⟩) (x_b2 (x_nmC ⟨rfl⟩) x_k1 zAm) (x_b2 (x_nmC ⟨rfl⟩) x_k2 zAm) o_slS) (by rw[show k+2=k+(1+1) from rfl,zHy])
theorem se_T2:zFC (seF T k ba ps hi lo)=some (decide ((T.drop k).take 1≠[93])||ps.isEmpty):=by
 refine x_t (x_or (x_t2 se_sl x_kS (o_ne o_eqS)) (x_or (x_t2 (x_nmC ⟨rfl⟩) (x_lst x_kA0 ⟨Nat.zero_le _⟩) (eq_nil fun v hv=>by obtain⟨q,_,rfl⟩:=List.mem_map.mp hv;rfl)) x_kT)) ?_;rw[Bool.or_false,decide_not];cases ps<;>rfl
theorem zLC:(tAnd (t2 (s3 (nmC 0) (nmE 1) (b2 (nmC 1) (kI 1) addV)) (kS [45]) eqV) (tAnd (t2 (s3 (nmC 0) (b2 (nmC 1) (kI 1) addV) (b2 (nmC 1) (kI 2) addV)) (kS [93]) neV) (kT true))) (seF T k ba ps hi lo)=some (decide ((T.drop k).take 1=[45]∧((T.drop k).drop 1).take 1≠[93])):=by
 refine x_t (x_and (x_t2 se_sl x_kS o_eqS) (x_and (x_t2 zN2 x_kS (o_ne o_eqS)) x_kT)) ?_;rw[Bool.and_true,←decide_not,←Bool.decide_and]
theorem zJg {a b:Nat}(hab:a≤b)(hz:ps.length<100000):(seqS (ifS (tOr (t2 (nmC 5) (kS []) eqV) (tOr (t2 (nmC 4) (nmC 5) ltV) (kT false))) (seqS (retS (tupE (aCons kN (aCons (nmE 1) kA0))))
 nilS) nilS)
 (seqS (appS 3 (tupE (aCons (nmE 5) (aCons (nmE 4) kA0))))
 nilS)) (seF T k ba ps (vl (.str [b])) (vl (.str [a])))=some (.next,seF T k ba (ps++[(a,b)]) (vl (.str [b])) (vl (.str [a]))):=by
 have e:ps.map vQ++[V.tup [.str [a],.str [b]]]=(ps++[(a,b)]).map vQ:=by rw[List.map_append];rfl
 exact s_seq (zAi (x_or (x_t2 (x_nmC ⟨rfl⟩) x_kS o_eqS) (x_or (x_t2 (x_nmC ⟨rfl⟩) (x_nmC ⟨rfl⟩) o_lt1) x_kT)) (by rw[decide_eq_false (fun h=>by cases h),decide_eq_false (Nat.not_lt.mpr hab)];rfl) (s_nil ⟨rfl⟩))
  (s_seq (s_app (x_tup (zAb (x_nmE ⟨rfl⟩) (zAb (x_nmE ⟨rfl⟩) x_kA0)) ⟨zznbl rfl⟩) ⟨rfl⟩ ⟨by rw[List.length_map];exact Nat.lt_trans hz (by decide)⟩ ⟨by rw[e];rfl⟩) (s_nil ⟨rfl⟩))
end
theorem zMC {T:List Nat}{ba:Option El}{b:Bool}{k k':Nat}{qs:List (Nat×Nat)}(h:SetAt T b k qs k'):∀ (ps:List (Nat×Nat)) (hi lo:Option El) (n:Nat),b=ps.isEmpty→ps.length+qs.length<100000→qs.length<n→
  ∃ hi' lo':Option El,zAk n zFC zB1 (seF T k ba ps hi lo)=some (.next,seF T k' ba (ps++qs) hi' lo'):=by
 have tru:∀ {b:Bool} {k:Nat} {ps:List (Nat×Nat)},b=ps.isEmpty→(b=true∨(T.drop k).take 1≠[93])→(decide ((T.drop k).take 1≠[93])||ps.isEmpty)=true:=fun e h=>by
  rcases h with h | h
  ·rw[←e,h,Bool.or_true]
  ·rw[decide_eq_true h];rfl
 induction h with
 | done h=>
  intro ps hi lo n hb _ hn;obtain⟨n',rfl⟩:∃ n',n=n'+1:=⟨n-1,by exact zn29 hn⟩
  refine⟨hi,lo,?_⟩;rw[zAy (x_t se_T2 (by rw[h,←hb,Bool.or_false];rfl)),List.append_nil]
 | @one b k k1 k' c qs hb h hn hr ih=>
  intro ps hi lo n he hz hnn;rw[List.length_cons] at hz hnn;obtain⟨n',rfl⟩:∃ n',n=n'+1:=⟨n-1,by exact zn5 hnn⟩
  obtain⟨hi',lo',h2⟩:=ih (ps++[(c,c)]) (vl (.str [c])) (vl (.str [c])) n' (by cases ps<;>rfl) (by rw[List.length_append];simp;exact zn6 hz) (Nat.lt_of_succ_lt_succ hnn);refine⟨hi',lo',?_⟩;have hL:zB1 (seF T k ba ps hi lo)=some (.next,seF T k1 ba (ps++[(c,c)]) (vl (.str [c])) (vl (.str [c]))):=by
   unfold zB1;exact s_seq (s_unp (zA4 (zAb (x_nmE ⟨rfl⟩) (zAb (x_nmE ⟨rfl⟩) x_kA0)) (one_F h)) ⟨rfl⟩ ⟨rfl⟩ ⟨rfl⟩) (s_seq (s_asg (x_nmE ⟨rfl⟩) ⟨rfl⟩ ⟨rfl⟩) (s_seq (zAi zLC (zzdef hn) (s_nil ⟨rfl⟩)) (zJg (zznlr _) (zznlu (zznar _ _) hz))))
  rw[zAI (x_t se_T2 (tru he hb)) hL,h2,List.append_assoc];rfl
 | @rng b k k1 k2 k' a d qs hb h hy h2 hle hr ih=>
  intro ps hi lo n he hz hnn;rw[List.length_cons] at hz hnn;obtain⟨n',rfl⟩:∃ n',n=n'+1:=⟨n-1,by exact zn5 hnn⟩
  obtain⟨hi',lo',h3⟩:=ih (ps++[(a,d)]) (vl (.str [d])) (vl (.str [a])) n' (by cases ps<;>rfl) (by rw[List.length_append];simp;exact zn6 hz) (Nat.lt_of_succ_lt_succ hnn);refine⟨hi',lo',?_⟩;have hL:zB1 (seF T k ba ps hi lo)=some (.next,seF T k2 ba (ps++[(a,d)]) (vl (.str [d])) (vl (.str [a]))):=by
   unfold zB1;exact s_seq (s_unp (zA4 (zAb (x_nmE ⟨rfl⟩) (zAb (x_nmE ⟨rfl⟩) x_kA0)) (one_F h)) ⟨rfl⟩ ⟨rfl⟩ ⟨rfl⟩) (s_seq (s_asg (x_nmE ⟨rfl⟩) ⟨rfl⟩ ⟨rfl⟩) (s_seq (zAs zLC (zzdet hy) (s_seq (s_unp (zA4 (zAb (x_nmE ⟨rfl⟩) (zAb (x_b2 (x_nmC ⟨rfl⟩) x_k1 zAm) x_kA0)) (one_F h2)) ⟨rfl⟩ ⟨rfl⟩ ⟨rfl⟩) (s_nil ⟨rfl⟩))) (zJg hle (zznlu (zznar _ _) hz))))
  rw[zAI (x_t se_T2 (tru he hb)) hL,h3,List.append_assoc];rfl
structure SetOk (T:List Nat)(k:Nat)(ng:Bool)(qs:List (Nat×Nat))(k':Nat):Prop where
 neg:decide ((T.drop k).take 1=[94])=ng
 items:SetAt T true (k+if ng=true then 1 else 0) qs k'
 len:qs.length<90000
theorem set_B {T:List Nat}{k k':Nat}{ng:Bool}{qs:List (Nat×Nat)}(h:SetOk T k ng qs k'):Ret zFE (fr [vl (.str T),vl (.int (k:Nat)),none,none,none,none] []) (.tup [.tup [.bool ng,.lst (qs.map vQ)],.int ((k'+1:Nat):Int)]):=by
 obtain⟨hn,hi,hl⟩:=h;unfold zFE;have h1:booE (t2 (s3 (nmC 0) (nmE 1) (b2 (nmC 1) (kI 1) addV)) (kS [94]) eqV) (fr [vl (.str T),vl (.int (k:Nat)),none,none,none,none] [])=some (.bool ng):=zEB (x_t (x_t2 (Eq.trans (x_s3 (x_nmC ⟨rfl⟩) (x_nmE ⟨rfl⟩) (x_b2 (x_nmC ⟨rfl⟩) x_k1 zAm) o_slS) (by rw[zFi])) x_kS o_eqS) hn)
 have h2:ite3 (tT (nmC 2)) (kI 1) (kI 0) (seF T k (vl (.bool ng)) [] none none)=some (.int (((if ng=true then 1 else 0:Nat)):Int)):=by
  refine Eq.trans (x_ite (x_tT (x_nmC ⟨rfl⟩) zCB) x_k1 x_k0) ?_;cases ng<;>rfl
 obtain⟨hi',lo',h3⟩:=zMC (ba:=vl (.bool ng)) hi [] none none 100000 rfl (by simp;exact zznlv hl (zznal _ _)) (zznlv hl (zznal _ _));rw[List.nil_append] at h3;refine q_seq (zGb (es:=[.val (.bool ng),.own []]) (zAE (x_bV h1) (zAE (x_bO (zCo x_kA0 ⟨Nat.zero_le _⟩)) x_kL0)) ⟨rfl⟩ ⟨rfl⟩ ⟨zznbl rfl⟩ ⟨rfl⟩) (q_seq (s_aug h2 ⟨rfl⟩ i_N ⟨rfl⟩) (q_seq h3 (zBv (q_frz ⟨rfl⟩ ⟨rfl⟩ (q_ret (x_tup (zAb (x_tup (zAb (x_nmE ⟨rfl⟩) (zAb (x_nmE ⟨rfl⟩) x_kA0)) ⟨zznbl rfl⟩) (zAb (x_b2 (x_nmC ⟨rfl⟩) x_k1 zAm) x_kA0)) ⟨zznbl rfl⟩))))))
noncomputable def zFD:List V→Option V:=ctr (fun xs=>∃ T,∃ k:Nat,∃ ng qs k',SetOk T k ng qs k'∧xs=[.str T,.int (k:Int)]) zFE 4
theorem set_F {T:List Nat}{k k':Nat}{ng:Bool}{qs:List (Nat×Nat)}(h:SetOk T k ng qs k'):zFD [.str T,.int (k:Int)]=some (.tup [.tup [.bool ng,.lst (qs.map vQ)],.int ((k'+1:Nat):Int)]):=zCR ⟨T,k,ng,qs,k',h,rfl⟩ (set_B h)
/- _law_steps: 11 slots {'text': 0,'words': 1,'marks': 2,'steps': 3,'k': 4,'found': 5,'step': 6,'bare': 7,'sign': 8} comps [[[('step',9)]],[[('pair',10)]]] counter None cells ['k','text'] -/
noncomputable def zDx:List (Str×Nat):=[("text",0),("words",1),("marks",2),("steps",3),("k",4),("found",5),("step",6),("bare",7),("sign",8)]
noncomputable def zAt:SF:=(seqS (cmpS false 5 (compF [10] (seqI (nmE 1)) (tgN 10) (t2 (s3 (nmC 0) (nmE 4) (b2 (nmC 4) (bnd (b2 (nmC 10) (kI 0) idxV) lenV) addV)) (b2 (nmC 10) (kI 0) idxV) eqV) (nmE 10)))
 (seqS (ifS (t2 (nmC 5) (lstE kA0) neV) (seqS (tupS [6,4] (bCons (bV (b2 (b2 (nmC 5) (kI 0) idxV) (kI 1) idxV)) (bCons (bV (b2 (nmC 4) (bnd (b2 (b2 (nmC 5) (kI 0) idxV) (kI 0) idxV) lenV) addV)) kL0)))
 nilS) (seqS (ifS (t2 (b2 (nmC 0) (nmC 4) idxV) (kS [91]) eqV) (seqS (unpS (bndL (aCons (nmE 0) (aCons (b2 (nmC 4) (kI 1) addV) kA0)) zFD) (tgT [6,4]))
 nilS) (seqS (asg (booE (t2 (b2 (nmC 0) (nmC 4) idxV) (kS [94,36,42,43,63,123,125,124,40,93]) inV)) 7)
 (seqS (unpS (bndL (aCons (nmE 0) (aCons (nmE 4) kA0)) zCk) (tgT [8,4]))
 (seqS (asg (ite3 (tOr (t2 (nmC 8) (kS []) eqV) (tOr (tT (nmC 7)) (kT false))) kN (tupE (aCons (kB false) (aCons (lstE (aCons (tupE (aCons (nmE 8) (aCons (nmE 8) kA0))) kA0)) kA0)))) 6)
 nilS))))
 nilS))
 (seqS (appS 3 (nmE 6))
 nilS)))
noncomputable def zBx:List Slot→Option Bool:=(t2 (nmC 4) (bnd (nmC 0) lenV) ltV)
noncomputable def zCK:SF:=(seqS (asg (lstE (aCons (tupE (aCons (kS [40,63,62]) (aCons (kS [104,111,108,100]) kA0))) (aCons (tupE (aCons (kS [41]) (aCons (kS [102,114,101,101]) kA0))) (aCons (tupE (aCons (kS [46,42,63]) (aCons (kS [108,101,97,115,116]) kA0))) (aCons (tupE (aCons (kS [46,42]) (aCons (kS [109,111,115,116]) kA0))) (aCons (tupE (aCons (kS [40,63,33,41]) (aCons (tupE (aCons (kB false) (aCons (lstE kA0) kA0))) kA0))) (aCons (tupE (aCons (kS [46]) (aCons (tupE (aCons (kB true) (aCons (lstE kA0) kA0))) kA0))) kA0))))))) 1)
 (seqS (tupS [3,4] (bCons (bO (lstN kA0)) (bCons (bV (kI 0)) kL0)))
 (seqS (zAk 100000 zBx zAt)
 (seqS (frz 3 (cmpS false 2 (compF [9] (seqI (nmE 3)) (tgN 9) (t2 (nmC 9) (tupE (aCons (kS [104,111,108,100]) (aCons (kS [102,114,101,101]) kA0))) inV) (nmE 9))))
 (seqS (retS (ite3 (tAnd (t2 (nmC 2) (b2 (lstE (aCons (kS [104,111,108,100]) (aCons (kS [102,114,101,101]) kA0))) (b2 (bnd (nmC 2) lenV) (kI 2) fdivV) mulV) eqV) (tAnd (t2 kN (nmC 3) ninV) (kT true))) (nmE 3) kN))
 nilS)))))
theorem zHB {l l':List (Option El)}{tl:List Slot}{f:List Slot→Option (List V)}{i:Nat}{ys:List V}(h:f (fr l tl)=some ys)(hi:Rf (decide (i<l.length)=true))(hl:Rf (l.set i (vl (.lst ys))=l')):cmpS false i f (fr l tl)=some (.next,fr l' tl):=by
 unfold cmpS;rw[h];show some (Out.next,setS (fr l tl) i (.val (.lst ys)))=_;rw[zBQ (of_decide_eq_true hi.out),hl.out]
noncomputable def wl8:List (List Nat×St):=[([40,63,62],.w wHold),([41],.w wFree),([46,42,63],.w zDo),([46,42],.w wMost),([40,63,33,41],.one false []),([46],.one true [])]
noncomputable def vW (p:List Nat×St):V:=.tup [.str p.1,p.2.v]
noncomputable def fnd (u:List Nat):List (List Nat×St):=wl8.filter fun p=>decide (u.take p.1.length=p.1)
noncomputable abbrev spF (T:List Nat)(ss:List St)(k:Nat)(f st b s:Option El):List Slot:=fr [vl (.str T),vl (.lst (wl8.map vW)),none,ol (ss.map St.v),vl (.int (k:Nat)),f,st,b,s,none,none] []
section
variable {T:List Nat} {ss:List St} {k:Nat} {f st b s:Option El}
theorem zFd:compF [10] (seqI (nmE 1)) (tgN 10) (t2 (s3 (nmC 0) (nmE 4) (b2 (nmC 4) (bnd (b2 (nmC 10) (kI 0) idxV) lenV) addV)) (b2 (nmC 10) (kI 0) idxV) eqV) (nmE 10) (spF T ss k f st b s)=some ((fnd (T.drop k)).map vW):=
 zDV (as:=wl8) (q:=vW) (h:=vW) ⟨rfl⟩ (zBL (x_nmE ⟨rfl⟩) o_itL) ⟨by decide⟩ (fun p _x=>x_t (x_t2 (x_s3 (x_nmC ⟨rfl⟩) (x_nmE ⟨rfl⟩) (x_b2 (x_nmC ⟨rfl⟩) (x_bnd (x_b2 (x_nmC ⟨rfl⟩) x_k0 (zCC ⟨rfl⟩)) zBe) zAm) o_slS) (x_b2 (x_nmC ⟨rfl⟩) x_k0 (zCC ⟨rfl⟩)) o_eqS) (by rw[zFi])) fun p _x _x=>x_nmE ⟨rfl⟩
noncomputable abbrev bareL:List Nat:=[94,36,42,43,63,123,125,124,40,93]
theorem zBr {s:St}:noObj s.v=true:=by
 cases s with
 | w a=>rfl
 | one n ps=>
  have h:zAw (ps.map vPr)=true:=zAG fun v hv=>by
   obtain⟨q,_,rfl⟩:=List.mem_map.mp hv;rfl
  show (true&&((zAw (ps.map vPr))&&true))=true;rw[h];rfl
theorem zHq:∀ v∈(fnd (T.drop k)).map vW,noObj v=true:=fun v hv=>by
 refine ze12 (List.mem_map.mp hv) fun q _ z2=>?_;subst z2;show (true&&(noObj q.2.v&&true))=true;rw[zBr];rfl
theorem zGK {x:St}{f b s:Option El}(hz:ss.length<100000):(seqS (appS 3 (nmE 6))
 nilS) (spF T ss k f (vl x.v) b s)=some (.next,spF T (ss++[x]) k f (vl x.v) b s):=by
 have e:ss.map St.v++[x.v]=(ss++[x]).map St.v:=by rw[List.map_append];rfl
 exact s_seq (s_app (x_nmE ⟨rfl⟩) ⟨rfl⟩ ⟨by rw[List.length_map];exact Nat.lt_trans hz (by decide)⟩ ⟨by rw[e];rfl⟩) (s_nil ⟨rfl⟩)
theorem zMx {p:List Nat×St}{r:List (List Nat×St)}(hf:fnd (T.drop k)=p::r)(hz:ss.length<100000):∃ f' st' b' s':Option El,zAt (spF T ss k f st b s)=some (.next,spF T (ss++[p.2]) (k+p.1.length) f' st' b' s'):=by
 refine⟨vl (.lst ((fnd (T.drop k)).map vW)),vl p.2.v,b,s,?_⟩;unfold zAt;refine s_seq (zHB zFd ⟨rfl⟩ ⟨rfl⟩) (s_seq (zAs (x_t2 (x_nmC ⟨rfl⟩) (x_lst x_kA0 ⟨Nat.zero_le _⟩) (o_ne (eq_nil zHq))) (by rw[hf];rfl) (s_seq (zJh (es:=[.val p.2.v,.val (.int ((k+p.1.length:Nat):Int))])
  (zAE (x_bV (x_b2 (x_b2 (x_nmC ⟨rfl⟩) x_k0 (zA5 ⟨by rw[hf];rfl⟩)) x_k1 (zCC ⟨rfl⟩))) (zAE (x_bV (x_b2 (x_nmC ⟨rfl⟩) (x_bnd (x_b2 (x_b2 (x_nmC ⟨rfl⟩) x_k0 (zA5 ⟨by rw[hf];rfl⟩)) x_k0 (zCC ⟨rfl⟩)) zBe) zAm)) x_kL0)) ⟨rfl⟩ ⟨rfl⟩ ⟨zznbl rfl⟩ ⟨rfl⟩) (s_nil ⟨rfl⟩))) (zGK hz))
theorem zJa (hf:fnd (T.drop k)=[]){st b s:Option El}:(t2 (nmC 5) (lstE kA0) neV) (spF T ss k (vl (.lst ((fnd (T.drop k)).map vW))) st b s)=some false:=
 x_t (x_t2 (x_nmC ⟨rfl⟩) (x_lst x_kA0 ⟨Nat.zero_le _⟩) (o_ne (eq_nil zHq))) (by rw[hf];rfl)
theorem zNW {ng:Bool}{qs:List (Nat×Nat)}{k':Nat}(hf:fnd (T.drop k)=[])(h91:T[k]? = some 91)(h:SetOk T (k+1) ng qs k')(hz:ss.length<100000):∃ f' st' b' s':Option El,zAt (spF T ss k f st b s)=some (.next,spF T (ss++[.one ng qs]) (k'+1) f' st' b' s'):=by
 refine⟨vl (.lst ((fnd (T.drop k)).map vW)),vl (St.one ng qs).v,b,s,?_⟩;unfold zAt;exact s_seq (zHB zFd ⟨rfl⟩ ⟨rfl⟩) (s_seq (zAi (zJa hf) rfl (s_seq (zAs (x_t2 (x_b2 (x_nmC ⟨rfl⟩) (x_nmC ⟨rfl⟩) (zAZ ⟨h91⟩)) x_kS o_eq1) rfl (s_seq (s_unp (x:=(St.one ng qs).v) (zA4 (zAb (x_nmE ⟨rfl⟩) (zAb (x_b2 (x_nmC ⟨rfl⟩) x_k1 zAm) x_kA0)) (set_F h)) ⟨rfl⟩ ⟨rfl⟩ ⟨rfl⟩) (s_nil ⟨rfl⟩))) (s_nil ⟨rfl⟩))) (zGK hz))
theorem zNX {d c k':Nat}(hf:fnd (T.drop k)=[])(hd:T[k]? = some d)(h91:d≠91)(hb:d∉bareL)(h:OneAt T k c k')(hz:ss.length<100000):∃ f' st' b' s':Option El,zAt (spF T ss k f st b s)=some (.next,spF T (ss++[.one false [(c,c)]]) k' f' st' b' s'):=by
 refine⟨vl (.lst ((fnd (T.drop k)).map vW)),vl (St.one false [(c,c)]).v,vl (.bool false),vl (.str [c]),?_⟩;unfold zAt;have h7:(booE (t2 (b2 (nmC 0) (nmC 4) idxV) (kS [94,36,42,43,63,123,125,124,40,93]) inV)) (spF T ss k (vl (.lst ((fnd (T.drop k)).map vW))) st b s)=some (.bool false):=zEB (x_t (x_t2 (x_b2 (x_nmC ⟨rfl⟩) (x_nmC ⟨rfl⟩) (zAZ ⟨hd⟩)) x_kS o_in1) (zzdef hb))
 exact s_seq (zHB zFd ⟨rfl⟩ ⟨rfl⟩) (s_seq (zAi (zJa hf) rfl (s_seq (zAi (x_t2 (x_b2 (x_nmC ⟨rfl⟩) (x_nmC ⟨rfl⟩) (zAZ ⟨hd⟩)) x_kS o_eq1) (zzdef h91) (s_seq (s_asg h7 ⟨rfl⟩ ⟨rfl⟩) (s_seq (s_unp (zA4 (zAb (x_nmE ⟨rfl⟩) (zAb (x_nmE ⟨rfl⟩) x_kA0)) (one_F h)) ⟨rfl⟩ ⟨rfl⟩ ⟨rfl⟩)
  (s_seq (s_asg (v:=(St.one false [(c,c)]).v) (zBn (x_or (x_t2 (x_nmC ⟨rfl⟩) x_kS o_eqS) (x_or (x_tT (x_nmC ⟨rfl⟩) zCB) x_kT)) (by rw[decide_eq_false (fun h=>by cases h)];rfl) (x_tup (zAb x_kB (zAb (x_lst (zAb (x_tup (zAb (x_nmE ⟨rfl⟩) (zAb (x_nmE ⟨rfl⟩) x_kA0)) ⟨zznbl rfl⟩) x_kA0) ⟨zznbl rfl⟩) x_kA0)) ⟨zznbl rfl⟩)) ⟨rfl⟩ ⟨rfl⟩) (s_nil ⟨rfl⟩))))) (s_nil ⟨rfl⟩))) (zGK hz))
theorem sp_T2:zBx (spF T ss k f st b s)=some (decide (k<T.length)):=x_t2 (x_nmC ⟨rfl⟩) (x_bnd (x_nmC ⟨rfl⟩) zBe) o_ltN
end
inductive zAq (T:List Nat):Nat→List St→Prop
 | done {k:Nat} (h:T.length≤k):zAq T k []
 | word {k:Nat} {p:List Nat×St} {r:List (List Nat×St)} {ss:List St} (hk:k<T.length) (hf:fnd (T.drop k)=p::r) (h:zAq T (k+p.1.length) ss):zAq T k (p.2::ss)
 | set {k k':Nat} {ng:Bool} {qs:List (Nat×Nat)} {ss:List St} (hf:fnd (T.drop k)=[]) (h91:T[k]? = some 91) (h0:SetOk T (k+1) ng qs k') (h:zAq T (k'+1) ss):zAq T k (.one ng qs::ss)
 | one {k k' c d:Nat} {ss:List St} (hf:fnd (T.drop k)=[]) (hd:T[k]? = some d) (h91:d≠91) (hb:d∉bareL) (h0:OneAt T k c k') (h:zAq T k' ss):zAq T k (.one false [(c,c)]::ss)
theorem zMy {T:List Nat}{k:Nat}{ss:List St}(h:zAq T k ss):∀ (ac:List St) (f st b s:Option El) (n:Nat),ss.length<n→ac.length+ss.length<100000→
  ∃ k' f' st' b' s',zAk n zBx zAt (spF T ac k f st b s)=some (.next,spF T (ac++ss) k' f' st' b' s'):=by
 have go:∀ {T:List Nat} {k k1:Nat} {x:St} {ss ac:List St} {f st b s:Option El} {n:Nat},k<T.length→(∃ f' st' b' s':Option El,zAt (spF T ac k f st b s)=some (.next,spF T (ac++[x]) k1 f' st' b' s'))→
   (∀ f st b s:Option El,∃ k' f' st' b' s',zAk n zBx zAt (spF T (ac++[x]) k1 f st b s)=some (.next,spF T (ac++[x]++ss) k' f' st' b' s'))→
   ∃ k' f' st' b' s',zAk (n+1) zBx zAt (spF T ac k f st b s)=some (.next,spF T (ac++x::ss) k' f' st' b' s'):=fun {T k k1 x ss ac f st b s n} hk hL ih=>by
  refine ze41 hL fun f1 st1 b1 s1 h1=>?_;clear hL;refine ze51 (ih f1 st1 b1 s1) fun k2 f2 st2 b2 s2 h2=>?_;refine⟨k2,f2,st2,b2,s2,?_⟩;rw[zAI (x_t sp_T2 (decide_eq_true hk)) h1,h2,List.append_assoc];rfl
 induction h with
 | @done k h=>
  intro ac f st b s n hn _;obtain⟨n',rfl⟩:∃ n',n=n'+1:=⟨n-1,by exact zn29 hn⟩
  exact⟨k,f,st,b,s,by rw[zAy (x_t sp_T2 (decide_eq_false (Nat.not_lt.mpr h))),List.append_nil]⟩
 | word hk hf _ ih=>
  intro ac f st b s n hn hz;rw[List.length_cons] at hn hz;obtain⟨n',rfl⟩:∃ n',n=n'+1:=⟨n-1,by exact zn5 hn⟩
  exact go hk (zMx hf (zznlu (zznar _ _) hz)) fun f st b s=>ih _ f st b s n' (Nat.lt_of_succ_lt_succ hn) (by rw[List.length_append];simp;exact zn6 hz)
 | set hf h91 h0 _ ih=>
  intro ac f st b s n hn hz;rw[List.length_cons] at hn hz;obtain⟨n',rfl⟩:∃ n',n=n'+1:=⟨n-1,by exact zn5 hn⟩
  exact go (List.getElem?_eq_some_iff.mp h91).1 (zNW hf h91 h0 (zznlu (zznar _ _) hz)) fun f st b s=>ih _ f st b s n' (Nat.lt_of_succ_lt_succ hn) (by rw[List.length_append];simp;exact zn6 hz)
 | one hf hd h91 hb h0 _ ih=>
  intro ac f st b s n hn hz;rw[List.length_cons] at hn hz;obtain⟨n',rfl⟩:∃ n',n=n'+1:=⟨n-1,by exact zn5 hn⟩
  exact go (List.getElem?_eq_some_iff.mp hd).1 (zNX hf hd h91 hb h0 (zznlu (zznar _ _) hz)) fun f st b s=>ih _ f st b s n' (Nat.lt_of_succ_lt_succ hn) (by rw[List.length_append];simp;exact zn6 hz)
noncomputable def St.mark (s:St):Bool:=s.isW wHold||s.isW wFree
theorem st_in {s:St}:inV s.v (.tup [.str wHold,.str wFree])=some s.mark:=by
 show inL s.v [.str wHold,.str wFree]=_;refine Eq.trans (if_pos ?_) (congrArg some ?_)
 ·rw[zBr];simp[zAw,noObj,deps,dep]
 ·unfold St.mark;cases s with
  | w a=>
   show ((py (.str wHold)).eqv (py (.str a))||((py (.str wFree)).eqv (py (.str a))||false))=(decide (a=wHold)||decide (a=wFree));rw[zFM,zFM,Bool.or_false];rw[decide_eq_decide.mpr (eq_comm:wHold=a↔a=wHold),decide_eq_decide.mpr (eq_comm:wFree=a↔a=wFree)]
  | one n ps=>simp[St.v,St.isW,pys,py,PyData.eqv]
theorem zMR {ss:List St}(hd:ss.length≤100000):ninV .none (.lst (ss.map St.v))=some true:=by
 refine o_nin (b:=false) ?_;show inL .none (ss.map St.v)=_
 have h:zAw (ss.map St.v)=true:=zAG fun v hv=>by
  obtain⟨s,_,rfl⟩:=List.mem_map.mp hv;exact zBr
 refine Eq.trans (if_pos ?_) (congrArg some ?_)
 ·rw[h];simp[noObj,dep]
 ·clear h hd
  induction ss with
  | nil=>rfl
  | cons s ss ih=>
   show ((py s.v).eqv (py .none)||(pys (ss.map St.v)).any fun y=>y.eqv (py .none))=false;rw[ih,Bool.or_false];cases s<;>simp[St.v,py,PyData.eqv]
noncomputable def markN (n:Nat):List St:=(List.replicate n [St.w wHold,St.w wFree]).flatten
theorem zI7 {T:List Nat}{ss:List St}{n:Nat}(h:zAq T 0 ss)(hm:ss.filter St.mark=markN n)(hz:ss.length<90000)(hn:n≤90000)(hq:eqV (.lst ((markN n).map St.v)) (.lst (List.replicate n [V.str wHold,V.str wFree]).flatten)=some true):
  Ret zCK (fr [vl (.str T),none,none,none,none,none,none,none,none,none,none] []) (.lst (ss.map St.v)):=by
 obtain⟨k',f',st',b',s',h1⟩:=zMy h [] none none none none 100000 (zznlv hz (zznal _ _)) (by simp;exact zznlv hz (zznal _ _));rw[List.nil_append] at h1;unfold zCK;refine q_seq (s_asg (v:=.lst (wl8.map vW)) (by
  refine x_lst (xs:=wl8.map vW) ?_ ⟨by decide⟩;exact zAb (x_tup (zAb x_kS (zAb x_kS x_kA0)) ⟨by decide⟩) (zAb (x_tup (zAb x_kS (zAb x_kS x_kA0)) ⟨by decide⟩) (zAb (x_tup (zAb x_kS (zAb x_kS x_kA0)) ⟨by decide⟩) (zAb (x_tup (zAb x_kS (zAb x_kS x_kA0)) ⟨by decide⟩)
   (zAb (x_tup (zAb x_kS (zAb (x_tup (zAb x_kB (zAb (x_lst x_kA0 ⟨by decide⟩) x_kA0)) ⟨by decide⟩) x_kA0)) ⟨by decide⟩) (zAb (x_tup (zAb x_kS (zAb (x_tup (zAb x_kB (zAb (x_lst x_kA0 ⟨by decide⟩) x_kA0)) ⟨by decide⟩) x_kA0)) ⟨by decide⟩) x_kA0)))))) ⟨rfl⟩ ⟨rfl⟩)
  (q_seq (zJh (es:=[.own [],.val (.int ((0:Nat):Int))]) (zAE (x_bO (zCo x_kA0 ⟨Nat.zero_le _⟩)) (zAE (x_bV x_k0) x_kL0)) ⟨rfl⟩ ⟨rfl⟩ ⟨zznbl rfl⟩ ⟨rfl⟩) (q_seq h1 ?_))
 have hlen:(markN n).length=2*n:=by unfold markN;simp[List.length_flatten];exact Nat.mul_comm _ _
 refine q_seq (s_frz ⟨rfl⟩ ⟨rfl⟩ (zHB (ys:=(ss.filter St.mark).map St.v) (zDV (q:=St.v) (h:=St.v) ⟨rfl⟩ (zBL (x_nmE ⟨rfl⟩) o_itL) ⟨by exact Nat.le_of_lt (zznlv hz (zznbl rfl))⟩ (fun s _x=>x_t2 (x_nmC ⟨rfl⟩) (x_tup (zAb x_kS (zAb x_kS x_kA0)) ⟨zznbl rfl⟩) st_in) fun s _x _x=>x_nmE ⟨rfl⟩) ⟨rfl⟩ ⟨rfl⟩)) ?_;rw[hm];have hmul:mulV (.lst [V.str wHold,V.str wFree]) (.int (n:Nat))=some (.lst (List.replicate n [V.str wHold,V.str wFree]).flatten):=by
  refine Eq.trans (if_pos ⟨by exact Int.natCast_nonneg _,by exact zn292 hn,by decide⟩) ?_;rw[Int.toNat_natCast]
 have hdiv:fdivV (.int (((markN n).map St.v).length:Nat)) (.int ((2:Nat):Int))=some (.int (n:Nat)):=by
  rw[zOc ⟨by decide⟩ ⟨by decide⟩,List.length_map,hlen,Nat.mul_div_cancel_left _ (by decide)]
 exact zBv (q_ret (zBA (x_and (x_t2 (x_nmC ⟨rfl⟩) (x_b2 (x_lst (zAb x_kS (zAb x_kS x_kA0)) ⟨zznbl rfl⟩) (x_b2 (x_bnd (x_nmC ⟨rfl⟩) zD8) x_k2 hdiv) hmul) hq) (x_and (x_t2 x_kN (x_nmC ⟨rfl⟩) (zMR (Nat.le_of_lt (zznlv hz (zznbl rfl))))) x_kT)) rfl (x_nmE ⟨rfl⟩)))
theorem zJC {n:Nat}:eqV (.lst ((markN n).map St.v)) (.lst (List.replicate n [V.str wHold,V.str wFree]).flatten)=some true:=by
 have e:(markN n).map St.v=(List.replicate n [V.str wHold,V.str wFree]).flatten:=by
  unfold markN;rw[List.map_flatten,List.map_replicate];rfl
 rw[e];have h:∀ m:Nat,zAw (List.replicate m [V.str wHold,V.str wFree]).flatten=true∧deps (List.replicate m [V.str wHold,V.str wFree]).flatten=0:=fun m=>by
  induction m with
  | zero=>exact⟨rfl,rfl⟩
  | succ m ih=>
   rw[List.replicate_succ,List.flatten_cons];generalize (List.replicate m [V.str wHold,V.str wFree]).flatten=u at ih ⊢;exact⟨by show (true&&(true&&zAw u))=true;rw[ih.1];rfl,by show max 0 (max 0 (deps u))=0;rw[ih.2];rfl⟩
 exact zH6 (h n).1 (by show deps _+1≤8;rw[(h n).2];decide)
noncomputable def zBR:List V→Option V:=ctr (fun xs=>∃ T,∃ ss:List St,∃ n:Nat,zAq T 0 ss∧ss.filter St.mark=markN n∧ss.length<90000∧n≤90000∧xs=[.str T]) zCK 10
theorem zMt {T:List Nat}{ss:List St}{n:Nat}(h:zAq T 0 ss)(hm:ss.filter St.mark=markN n)(hz:ss.length<90000)(hn:n≤90000):zBR [.str T]=some (.lst (ss.map St.v)):=zCR ⟨T,ss,n,h,hm,hz,hn,rfl⟩ (zI7 h hm hz hn zJC)
noncomputable def Soft (r:List Nat):Prop:=r.head?≠some 42∧r.head?≠some 63
theorem zCv {c:Nat}{r:List Nat}(h:c≠42∧c≠63):Soft (c::r):=⟨fun e=>h.1 (zzosi e),fun e=>h.2 (zzosi e)⟩
theorem zFh:Soft []:=⟨nofun,nofun⟩
theorem dr {T r:List Nat}{k c:Nat}(h:T.drop k=c::r):T[k]? = some c∧T.drop (k+1)=r:=by
 have hk:k<T.length:=by
  by_cases q:k<T.length
  ·exact q
  ·rw[List.drop_eq_nil_of_le (Nat.le_of_not_lt q)] at h;cases h
 rw[List.drop_eq_getElem_cons hk] at h;injection h with h1 h2
 exact⟨by rw[List.getElem?_eq_getElem hk,h1],h2⟩
theorem drA {T:List Nat}:∀ {a r:List Nat} {k:Nat},T.drop k=a++r→T.drop (k+a.length)=r
 | [],_,_,h=>h
 | c::a,r,k,h=>by
  have:=drA (dr h).2;rw[Nat.add_assoc,Nat.add_comm 1] at this;exact this
theorem lt_dr {T r:List Nat}{k c:Nat}(h:T.drop k=c::r):k<T.length:=(List.getElem?_eq_some_iff.mp (dr h).1).1
theorem zNh {r:List Nat}(h:Soft r):fnd (46::r)=[([46],.one true [])]:=by
 cases r with
 | nil=>rfl
 | cons c r=>
  have hc:c≠42:=fun e=>h.1 (by rw[e];rfl);have h1:decide ((46::c::r).take 3=[46,42,63])=false:=zzdef fun e=>hc (List.cons.inj (List.cons.inj e).2).1;have h2:decide ((46::c::r).take 2=[46,42])=false:=zzdef fun e=>hc (List.cons.inj (List.cons.inj e).2).1;show List.filter _ [_,_,([46,42,63],_),([46,42],_),_,_]=_;simp only[List.filter_cons,List.length_cons,List.length_nil,h1,h2];rfl
theorem zLb {r:List Nat}(h:Soft r):∃ q,fnd (46::42::r)=([46,42],.w wMost)::q:=by
 cases r with
 | nil=>exact⟨_,rfl⟩
 | cons c r=>
  have hc:c≠63:=fun e=>h.2 (by rw[e];rfl);have h1:decide ((46::42::c::r).take 3=[46,42,63])=false:=zzdef fun e=>hc (List.cons.inj (List.cons.inj (List.cons.inj e).2).2).1;refine⟨[([46],.one true [])],?_⟩;show List.filter _ [_,_,([46,42,63],_),_,_,_]=_;simp only[List.filter_cons,List.length_cons,List.length_nil,h1];rfl
theorem zJV {r:List Nat}:∃ q,fnd (46::42::63::r)=([46,42,63],.w zDo)::q:=⟨_,rfl⟩
theorem zLc {r:List Nat}:∃ q,fnd (40::63::62::r)=([40,63,62],.w wHold)::q:=⟨_,rfl⟩
theorem zLd {r:List Nat}:∃ q,fnd (41::r)=([41],.w wFree)::q:=⟨_,rfl⟩
theorem zLa {r:List Nat}:∃ q,fnd (40::63::33::41::r)=([40,63,33,41],.one false [])::q:=⟨_,rfl⟩
theorem zHV {c:Nat}{r:List Nat}(h:c≠40∧c≠41∧c≠46):fnd (c::r)=[]:=by
 have h1:∀ {d:Nat} {w:List Nat} {n:Nat},c≠d→decide ((c::r).take (n+1)=d::w)=false:=fun hd=>zzdef fun e=>hd (List.cons.inj e).1;show List.filter _ [([40,63,62],_),([41],_),([46,42,63],_),([46,42],_),([40,63,33,41],_),([46],_)]=_;simp only[List.filter_cons,List.length_cons,List.length_nil,h1 h.1,h1 h.2.1,h1 h.2.2];rfl
theorem zMF {T r:List Nat}{k c:Nat}{ss:List St}(hc:c∉[40,41,46,91,92])(hb:c∉bareL)(h:T.drop k=c::r)(hs:zAq T (k+1) ss):zAq T k (.one false [(c,c)]::ss):=by
 simp only[List.mem_cons,not_or] at hc;exact .one (by rw[h];exact zHV ⟨hc.1,hc.2.1,hc.2.2.1⟩) (dr h).1 hc.2.2.2.1 hb (.bare h hc.2.2.2.2.1) hs
theorem zN4 {T r:List Nat}{k c:Nat}{ss:List St}(hc:c∉alnum)(h:T.drop k=92::c::r)(hs:zAq T (k+2) ss):zAq T k (.one false [(c,c)]::ss):=
 .one (by rw[h];exact zHV (by decide)) (dr h).1 (by decide) (by decide) (.esc h hc) hs
theorem zCt {α β:Type}(f:α→β):∀ (L:List (Option α)) (st:Bool),zAc st (L.map (Option.map f))=((zAc st L).1.map f,(zAc st L).2.map (List.map f))
 | [],_=>rfl
 | some x::L,_=>by
  show (f x::(zAc false (L.map (Option.map f))).1,(zAc false (L.map (Option.map f))).2)=_;rw[zCt f L];rfl
 | none::L,true=>zCt f L true
 | none::L,false=>by
  show ([],(zAc true (L.map (Option.map f))).1::(zAc true (L.map (Option.map f))).2)=_;rw[zCt f L];rfl
theorem zBb {α:Type}:∀ {L:List (Option α)} {st:Bool} {p:α},(p∈(zAc st L).1∨∃ s∈(zAc st L).2,p∈s)→some p∈L
 | [],_,_,h=>by
  rcases h with h | ⟨s,h,_⟩<;>cases h
 | some x::L,_,p,h=>by
  have ih:=zBb (L:=L) (st:=false) (p:=p);rcases h with h | h
  ·rcases List.mem_cons.mp h with rfl | h
   ·exact zzlms
   ·exact zzlmc _ (ih (.inl h))
  ·exact zzlmc _ (ih (.inr h))
 | none::L,true,p,h=>zzlmc _ (zBb (L:=L) (st:=true) h)
 | none::L,false,p,h=>by
  refine zzlmc _ (zBb (L:=L) (st:=true) ?_);rcases h with h | ⟨s,h,hp⟩
  ·cases h
  ·rcases List.mem_cons.mp h with rfl | h
   ·exact .inl hp
   ·exact .inr ⟨s,h,hp⟩
theorem split_len {α:Type}:∀ (L:List (Option α)) (st:Bool),(zAc st L).1.length+((zAc st L).2.map List.length).sum+(zAc st L).2.length≤L.length
 | [],_=>zznlr _
 | some x::L,_=>by
  have:=split_len L false;show (zAc false L).1.length+1+((zAc false L).2.map List.length).sum+(zAc false L).2.length≤L.length+1;exact zn294 this
 | none::L,true=>Nat.le_succ_of_le (split_len L true)
 | none::L,false=>by
  have:=split_len L true;show 0+((zAc true L).1.length+((zAc true L).2.map List.length).sum)+((zAc true L).2.length+1)≤L.length+1;exact zn295 this
theorem zEe:∀ {X:List (List Nat)},lastA [] X=X
 | []=>rfl
 | [x]=>congrArg (·::[]) (List.append_nil x)
 | x::y::X=>congrArg (x::·) (zEe (X:=y::X))
theorem zEf {a b:List Nat}:∀ {X:List (List Nat)},lastA b (lastA a X)=lastA (a++b) X
 | []=>rfl
 | [x]=>congrArg (·::[]) (zzlaa x a b)
 | [x,y]=>congrArg (x::·) (zEf (X:=[y]))
 | x::y::z::X=>congrArg (x::·) (zEf (X:=y::z::X))
theorem zMz:∀ {X:List (List Nat)},Soft (zBa X)
 | []=>zFh
 | [x]=>zCv (by decide)
 | x::y::X=>zCv (r:=63::62::46::42::63::_) (by decide)
theorem zDK:∀ {seg:Sg},(seg.map oneS).filter St.mark=[]
 | []=>rfl
 | _::seg=>zDK (seg:=seg)
theorem zGf:∀ {segs:List Sg},(restS segs).filter St.mark=markN (segs.length-1)
 | []=>rfl
 | [x]=>zDK (seg:=x)
 | x::y::X=>by
  have ih:=zGf (segs:=y::X);show St.w wHold::(x.map oneS++St.w wFree::restS (y::X)).filter St.mark=_;rw[List.filter_append,zDK];show St.w wHold::St.w wFree::(restS (y::X)).filter St.mark=_;rw[ih];rfl
theorem zHC:∀ {segs:List Sg},(restS segs).length≤3*segs.length+(segs.map List.length).sum
 | []=>zznlr _
 | [x]=>by
  show (x.map oneS).length+1≤3+(x.length+0);rw[List.length_map];exact Nat.lt_add_of_pos_left (Nat.succ_pos _)
 | x::y::X=>by
  have ih:=zHC (segs:=y::X);show (x.map oneS++St.w wFree::restS (y::X)).length+1+1≤3*((y::X).length+1)+(x.length+((y::X).map List.length).sum);rw[List.length_append,List.length_map,List.length_cons];exact zn297 ih
theorem zNZ {t:List Nat}:zCw (.str (zAB t)) (.int ((4:Nat):Int)) (.int (-3))=some (.str t):=by
 show some (V.str (slc (zAB t) (some ((4:Nat):Int)) (some (-3))))=_;have hl:(zAB t).length=t.length+7:=by unfold zAB;simp
 have h1:cl (zAB t).length (some ((4:Nat):Int)) 0=4:=by rw[hl];exact Nat.min_eq_left (zznal 4 (t.length+3))
 have h2:cl (zAB t).length (some (-3)) (zAB t).length=t.length+4:=by rw[hl];rfl
 unfold slc;rw[h1,h2,Nat.add_sub_cancel];show some (V.str ((t++[41,92,90]).take t.length))=_;rw[List.take_left' rfl]
theorem zN0 {t:List Nat}:zCw (.str (zAB t)) (.int (-3)) .none=some (.str [41,92,90]):=by
 show some (V.str (slc (zAB t) (some (-3)) none))=_;have hl:(zAB t).length=t.length+7:=by unfold zAB;simp
 have h1:cl (zAB t).length (some (-3)) 0=t.length+4:=by rw[hl];rfl
 have h2:cl (zAB t).length none (zAB t).length=t.length+7:=hl;have h3:t.length+7-(t.length+4)=3:=by exact zn298
 unfold slc;rw[h1,h2,h3];show some (V.str (((t++[41,92,90]).drop t.length).take 3))=_;rw[List.drop_left' rfl];rfl
inductive Wr:Nat→List Nat→Prop
 | bare {c:Nat}:c≠92→Wr c [c]
 | esc {c:Nat}:c∉alnum→Wr c [92,c]
inductive Rd:List Nat→List (Nat×Nat)→Prop
 | nil:Rd [] []
 | one {c:Nat} {w u:List Nat} {l:List (Nat×Nat)}:Wr c w→u.head?≠some 45→u.head?≠some 93→Rd u l→Rd (w++u) ((c,c)::l)
 | rng {a b:Nat} {w z u:List Nat} {l:List (Nat×Nat)}:Wr a w→Wr b z→b≠93→a≤b→u.head?≠some 93→Rd u l→Rd (w++45::(z++u)) ((a,b)::l)
theorem Wr.at {T w u:List Nat}{k c:Nat}(h:Wr c w)(hT:T.drop k=w++u):OneAt T k c (k+w.length)∧T.drop (k+w.length)=u∧(c≠93→(T.drop k).take 1≠[93]):=by
 refine⟨?_,drA hT,fun hc=>?_⟩
 ·cases h with
  | bare h=>exact .bare hT h
  | esc h=>exact .esc hT h
 ·rw[hT];cases h with
  | bare h=>exact fun e=>hc (List.cons.inj e).1
  | esc h=>exact fun e=>absurd (List.cons.inj e).1 (by decide)
theorem zIW {u v:List Nat}{d c:Nat}(h:u.head?≠some c)(hd:d≠c):(u++d::v).take 1≠[c]:=by
 cases u with
 | nil=>exact fun e=>hd (List.cons.inj e).1
 | cons a u=>exact fun e=>h (by rw[show a=c from (List.cons.inj e).1];rfl)
theorem zLB {u:List Nat}{l:List (Nat×Nat)}(h:Rd u l):∀ {T r:List Nat} {k:Nat} {b:Bool},T.drop k=u++93::r→(u=[]→b=false)→(b=true∨(T.drop k).take 1≠[93]∨u=[])→SetAt T b k l (k+u.length):=by
 induction h with
 | nil=>
  intro T r k b hT hb _;rw[hb rfl];exact .done hT
 | @one c w u l hw h45 h93 hr ih=>
  intro T r k b hT _ hb;rw[List.append_assoc] at hT;have q:=hw.at hT;have hne:w++u≠[]:=by cases hw<;>simp
  rw[List.length_append,←Nat.add_assoc];refine .one (hb.imp id fun h=>h.resolve_right hne) q.1 (fun h=>?_) (ih q.2.1 (fun _x=>rfl) (.inr ?_))
  ·rw[q.2.1] at h;exact zIW h45 (by decide) h.1
  ·rw[q.2.1];cases u with
   | nil=>exact .inr rfl
   | cons y z=>exact .inl fun e=>h93 (congrArg some (List.cons.inj e).1)
 | @rng a b' w z u l hw hz hz93 hle h93 hr ih=>
  intro T r k b hT _ hb;rw[List.append_assoc] at hT;have q:=hw.at hT;have hT2:T.drop (k+w.length+1)=z++(u++93::r):=(dr (r:=(z++u)++93::r) q.2.1).2.trans (zzlaa ..);have q2:=hz.at hT2;have hne:w++45::(z++u)≠[]:=by cases hw<;>simp
  have e:k+(w++45::(z++u)).length=k+w.length+1+z.length+u.length:=by
   rw[List.length_append,List.length_cons,List.length_append];exact zn299
  rw[e];refine .rng (hb.imp id fun h=>h.resolve_right hne) q.1 ?_ q2.1 hle (ih q2.2.1 (fun _x=>rfl) (.inr ?_))
  ·rw[q.2.1];refine⟨rfl,?_⟩;have:=q2.2.2 hz93;rw[hT2] at this;rw[List.cons_append,List.drop_succ_cons,List.drop_zero,List.append_assoc];exact this
  ·rw[q2.2.1];cases u with
   | nil=>exact .inr rfl
   | cons y z=>exact .inl fun e=>h93 (congrArg some (List.cons.inj e).1)
structure Ptx (w:List Nat)(q:Bool×List (Nat×Nat)):Prop where
 rd:∀ {T r:List Nat} {k:Nat} {ss:List St},T.drop k=w++r→Soft r→zAq T (k+w.length) ss→zAq T k (oneS q::ss)
 hd:∀ {r:List Nat},Soft (w++r)
 le:q.2.length≤2000
theorem zJo {c:Nat}(hc:c∉alnum):Ptx [92,c] (false,[(c,c)]):=⟨fun h _x hs=>zN4 hc h hs,zCv (by decide),Nat.le_of_ble_eq_true rfl⟩
theorem zGJ:∀ c∈specials,c∉alnum:=by decide
theorem zOy:∀ c∈[40,41,46,91,92,42,63]++bareL,c∈specials:=by decide
theorem zMI {c:Nat}(h42:c≠42)(h63:c≠63):Ptx (zAX specials c) (false,[(c,c)]):=by
 by_cases h:specials.contains c=true
 ·rw[show zAX specials c=[92,c] from if_pos h];exact zJo (zGJ c (List.contains_iff_mem.mp h))
 ·rw[show zAX specials c=[c] from if_neg h];have hn:c∉[40,41,46,91,92,42,63]++bareL:=fun q=>h (List.contains_iff_mem.mpr (zOy c q))
  have h1:c∉[40,41,46,91,92]:=fun q=>hn (List.mem_append_left _ (by
   simp only[List.mem_cons] at q ⊢;rcases q with q | q | q | q | q | q<;>simp[q]))
  exact⟨fun h _x hs=>zMF h1 (fun q=>hn (List.mem_append_right _ q)) h hs,zCv ⟨h42,h63⟩,Nat.le_of_ble_eq_true rfl⟩
theorem zJp:Ptx [46] (true,[]):=⟨fun h hr hs=>.word (p:=([46],.one true [])) (lt_dr h) (by rw[h];exact zNh hr) hs,zCv (by decide),Nat.zero_le _⟩
theorem zKR:Ptx [40,63,33,41] (false,[]):=⟨fun {T r k ss} h _ hs=>by
 refine ze11 (zLa (r:=r)) fun q hq=>?_;exact .word (p:=([40,63,33,41],.one false [])) (lt_dr h) ((congrArg fnd h).trans hq) hs,zCv (by decide),Nat.zero_le _⟩
theorem zMH {T:List Nat}{l:List (Nat×Nat)}(h0:T≠[])(hr:Rd T l)(h94:T.head?≠some 94)(hl:l.length≤2000):Ptx (91::(T++[93])) (false,l):=by
 refine⟨fun {U r k ss} h _ hs=>?_,zCv (by decide),hl⟩;have h1:=dr h;have h2:U.drop (k+1)=T++93::r:=h1.2.trans (zzlaa ..);refine .set (k':=k+1+T.length) (by rw[h];exact zHV (by decide)) h1.1 ⟨?_,zLB hr h2 (fun q=>absurd q h0) (.inl rfl),Nat.lt_of_le_of_lt hl (by decide)⟩ ?_
 ·rw[h2];exact zzdef (zIW h94 (by decide))
 ·rw[List.length_cons,List.length_append] at hs;rw[show k+1+T.length+1=k+(T.length+[93].length+1) by rw[List.length_singleton];exact zn300];exact hs
theorem zKQ {T:List Nat}{l:List (Nat×Nat)}(h0:T≠[])(hr:Rd T l)(hl:l.length≤2000):Ptx (91::94::(T++[93])) (true,l):=by
 refine⟨fun {U r k ss} h _ hs=>?_,zCv (by decide),hl⟩;have h1:=dr h;have h2:=dr h1.2;have h3:U.drop (k+1+1)=T++93::r:=h2.2.trans (zzlaa ..);refine .set (k':=k+1+1+T.length) (by rw[h];exact zHV (by decide)) h1.1 ⟨by rw[h1.2];rfl,zLB hr h3 (fun q=>absurd q h0) (.inl rfl),Nat.lt_of_le_of_lt hl (by decide)⟩ ?_;rw[List.length_cons,List.length_cons,List.length_append] at hs;rw[show k+1+1+T.length+1=k+(T.length+[93].length+1+1) by rw[List.length_singleton];exact zn301];exact hs
noncomputable abbrev It:=Nat×Nat×Bool
noncomputable def wri (J:List It):List Nat:=J.flatMap (wr1 e1)
noncomputable def ext1 (i:It):List Nat:=if i.2.2=true then 45::e1 i.2.1 else []
theorem zMe {i:It}:wr1 e1 i=e1 i.1++ext1 i:=by
 unfold wr1 ext1;split
 ·rfl
 ·rw[List.append_nil]
theorem zCp {i:It}{J:List It}:wri (i::J)=e1 i.1++(ext1 i++wri J):=by
 unfold wri;rw[List.flatMap_cons,zMe,List.append_assoc]
theorem zDR (c:Nat):(e1 c=[92,c]∧(c=92∨c=45∨c=38∨c=126∨c=124))∨(e1 c=[c]∧c≠92∧c≠45∧c≠38∧c≠126∧c≠124):=by
 unfold e1;by_cases h:c=92∨c=45∨c=38∨c=126∨c=124
 ·exact .inl ⟨if_pos h,h⟩
 ·exact .inr ⟨if_neg h,fun e=>h (.inl e),fun e=>h (.inr (.inl e)),fun e=>h (.inr (.inr (.inl e))),fun e=>h (.inr (.inr (.inr (.inl e)))),fun e=>h (.inr (.inr (.inr (.inr e))))⟩
theorem wr_e1 (c:Nat):Wr c (e1 c):=by
 rcases zDR c with ⟨e,h⟩ | ⟨e,h,_⟩
 ·rw[e];refine .esc fun q=>?_;rcases h with rfl | rfl | rfl | rfl | rfl<;>revert q<;>decide
 ·rw[e];exact .bare h
theorem zKd {c:Nat}{u:List Nat}(h:c≠93):(e1 c++u).head?≠some 45∧(e1 c++u).head?≠some 93:=by
 rcases zDR c with ⟨e,_⟩ | ⟨e,_,h2,_⟩
 ·rw[e];simp
 ·rw[e];simp[h,h2]
theorem e1_ne {c:Nat}:e1 c≠[]:=by rcases zDR c with ⟨e,_⟩ | ⟨e,_⟩<;>rw[e]<;>simp
theorem zIL {J:List It}(h:wri J=[]):J=[]:=by
 cases J with
 | nil=>rfl
 | cons i J=>rw[zCp] at h;exact absurd (List.append_eq_nil_iff.mp h).1 e1_ne
structure Good (i:It):Prop where
 le:i.1≤i.2.1
 one:i.2.2=false→i.2.1=i.1
noncomputable def ends (i:It):Nat×Nat:=(i.1,i.2.1)
theorem zGP {i:It}{w u:List Nat}{l:List (Nat×Nat)}(hg:Good i)(hf:i.2.2=true→i.2.1≠93)(hw:Wr i.1 w)(h45:u.head?≠some 45)(h93:u.head?≠some 93)(hr:Rd u l):Rd (w++(ext1 i++u)) (ends i::l):=by
 unfold ext1 ends;cases hb:i.2.2 with
 | true=>
  rw[if_pos rfl];exact .rng hw (wr_e1 _) (hf hb) hg.le h93 hr
 | false=>
  rw[if_neg (by decide),hg.one hb];exact .one hw h45 h93 hr
theorem zE3 {J:List It}(h:∀ i∈J,i.1≠93):(wri J).head?≠some 45∧(wri J).head?≠some 93:=by
 cases J with
 | nil=>exact⟨by simp[wri],by simp[wri]⟩
 | cons i J=>rw[zCp];exact zKd (h i (by simp))
theorem zLE:∀ {J:List It},(∀ i∈J,Good i)→(∀ i∈J,i.2.2=true→i.2.1≠93)→(∀ i∈J,i.1≠93)→Rd (wri J) (J.map ends)
 | [],_,_,_=>.nil
 | i::J,hg,hf,h=>by
  have h':∀ i∈J,i.1≠93:=fun i hi=>h i (by simp[hi]);have hh:=zE3 h';rw[zCp];exact zGP (hg i (by simp)) (hf i (by simp)) (wr_e1 _) hh.1 hh.2 (zLE (fun i hi=>hg i (by simp[hi])) (fun i hi=>hf i (by simp[hi])) h')
structure JOk (J:List It):Prop where
 good:∀ i∈J,Good i
 shut:∀ i∈J.tail,i.1≠93
 far:∀ i∈J,i.2.2=true→i.2.1≠93
 len:J.length≤1000
theorem JOk.tl {i:It}{J:List It}(h:JOk (i::J)):(∀ i∈J,i.1≠93)∧Rd (wri J) (J.map ends):=⟨h.shut,zLE (fun i hi=>h.good i (by simp[hi])) (fun i hi=>h.far i (by simp[hi])) h.shut⟩
theorem JOk.rd {J:List It}(h:JOk J):Rd (wri J) (J.map ends):=by
 cases J with
 | nil=>exact .nil
 | cons i J=>
  have hh:=zE3 h.tl.1;rw[zCp];exact zGP (h.good i (by simp)) (h.far i (by simp)) (wr_e1 _) hh.1 hh.2 h.tl.2
noncomputable def trn (J:List It):Bool:=match J with
 | []=>false
 | i::_=>decide (i.1=33)
noncomputable def nmL (J:List It):List It:=match J with
 | []=>[]
 | i::J'=>if i.1=33 then (if i.2.2=true then [(45,45,false),(i.2.1,i.2.1,false)] else [])++J' else i::J'
theorem zGS:∀ (s:List Nat),(prs s).length≤s.length
 | []=>zznlr _
 | [x]=>zznlr _
 | [x,h]=>zznlr _
 | x::h::y::u=>by
  rw[prs];split
  ·have:=zGS u;simp only[List.length_cons];exact zn302 this
  ·exact zznss (zGS (h::y::u))
theorem zFn:∀ (s:List Nat),∀ i∈prs s,i.2.2=false→i.2.1=i.1
 | [],i,hi=>by cases hi
 | [x],i,hi=>fun _x=>by rw[List.mem_singleton.mp hi]
 | [x,h],i,hi=>fun _x=>by
  rcases List.mem_cons.mp hi with e | e
  ·rw[e]
  ·rw[List.mem_singleton.mp e]
 | x::h::y::u,i,hi=>by
  rw[prs] at hi;split at hi
  ·rcases List.mem_cons.mp hi with e | e
   ·rw[e];intro q;cases q
   ·exact zFn u i e
  ·rcases List.mem_cons.mp hi with e | e
   ·rw[e];intro _;rfl
   ·exact zFn (h::y::u) i e
theorem zGR:∀ (s:List Nat),(∀ i∈prs s,i.1∈s)∧(∀ i∈(prs s).tail,i.1∈s.drop 1)∧(∀ i∈prs s,i.2.2=true→i.2.1∈s.drop 1)
 | []=>⟨by simp[prs],by simp[prs],by simp[prs]⟩
 | [x]=>⟨by simp[prs],by simp[prs],by simp[prs]⟩
 | [x,h]=>⟨by simp[prs],by simp[prs],by simp[prs]⟩
 | x::h::y::u=>by
  rw[prs];split
  ·refine ze03 (zGR u) fun h1 _ h3=>?_;have h3:∀ i∈prs u,i.2.2=true→i.2.1∈u:=fun i hi hb=>List.mem_of_mem_drop (h3 i hi hb);refine⟨fun i hi=>?_,fun i hi=>zzlmc _ (zzlmc _ (h1 i hi)),fun i hi hb=>?_⟩
   ·rcases List.mem_cons.mp hi with e | e
    ·rw[e];exact zzlms
    ·exact zzlmc _ (zzlmc _ (zzlmc _ (h1 i e)))
   ·rcases List.mem_cons.mp hi with e | e
    ·rw[e];exact zzlmc _ zzlms
    ·exact zzlmc _ (zzlmc _ (h3 i e hb))
  ·refine ze03 (zGR (h::y::u)) fun h1 _ h3=>?_;refine⟨fun i hi=>?_,fun i hi=>h1 i hi,fun i hi hb=>?_⟩
   ·rcases List.mem_cons.mp hi with e | e
    ·rw[e];exact zzlms
    ·exact zzlmc _ (h1 i e)
   ·rcases List.mem_cons.mp hi with e | e
    ·rw[e] at hb;cases hb
    ·exact List.mem_of_mem_drop (h3 i e hb)
theorem zG2 {α:Type}{p:α→Bool}{l:List α}{i:α}(h:i∈(l.filter p).tail):i∈l.tail:=by
 cases l with
 | nil=>cases h
 | cons a l=>
  rw[List.filter_cons] at h;split at h
  ·exact(List.mem_filter.mp h).1
  ·exact(List.mem_filter.mp (List.mem_of_mem_tail h)).1
noncomputable def itemsOf (s:List Nat):List It:=(prs s).filter okI
theorem zGi {s:List Nat}(h93:93∉s.drop 1)(hl:s.length≤1000):JOk (itemsOf s):=by
 refine ze03 (zGR s) fun _ h2 h3=>?_;refine⟨fun i hi=>?_,fun i hi e=>h93 (e▸h2 i (zG2 hi)),fun i hi hb e=>h93 (e▸h3 i (List.mem_filter.mp hi).1 hb),?_⟩
 ·refine ze02 (List.mem_filter.mp hi) fun g1 g2=>?_;exact⟨zzode g2,zFn s i g1⟩
 ·exact zznlt (List.length_filter_le _ _) (zznlt (zGS s) hl)
noncomputable def brk6 (s:List Nat):Bool×List (Nat×Nat):=if s.head? = some 33 then (true,(itemsOf (s.drop 1)).map ends) else (trn (itemsOf s),(nmL (itemsOf s)).map ends)
theorem zHF {T:List Nat}{l:List (Nat×Nat)}(hr:Rd T l)(hl:l.length≤2000)(h0:T=[]→l=[]):Ptx (wrapB (33::T)) (true,l):=by
 unfold wrapB;dsimp only;rw[if_pos rfl];by_cases h:T=[]
 ·rw[if_pos h,h0 h];exact zJp
 ·rw[if_neg h];exact zKQ h hr hl
theorem zMJ {J:List It}(h:JOk J):Ptx (wrapB (33::wri J)) (true,J.map ends):=zHF h.rd (by rw[List.length_map];exact zznlt h.len (by decide)) fun q=>by rw[zIL q];rfl
theorem zJn {J:List It}(h:JOk J):Ptx (wrapB (wri J)) (trn J,(nmL J).map ends):=by
 cases J with
 | nil=>exact zKR
 | cons i J=>
  have hh:=zE3 h.tl.1;have hJ:=h.len;rw[List.length_cons] at hJ;rw[zCp];by_cases h33:i.1=33
  ·have e:e1 i.1=[33]:=by rw[h33];rfl
   rw[e];have en:nmL (i::J)=(if i.2.2=true then [(45,45,false),(i.2.1,i.2.1,false)] else [])++J:=if_pos h33;have et:trn (i::J)=true:=zzdet h33;rw[en,et];refine zHF (T:=ext1 i++wri J) ?_ ?_ fun q=>?_
   ·unfold ext1;cases hb:i.2.2 with
    | true=>
     rw[if_pos rfl,if_pos rfl];have h1:Rd (e1 i.2.1++wri J) ((i.2.1,i.2.1)::J.map ends):=.one (wr_e1 _) hh.1 hh.2 h.tl.2;have h2:=zKd (u:=wri J) (h.far i (by simp) hb);exact .one (w:=[45]) (.bare (by decide)) h2.1 h2.2 h1
    | false=>
     rw[if_neg (by decide),if_neg (by decide)];exact h.tl.2
   ·rw[List.length_map,List.length_append];cases i.2.2 with
    | true=>rw[if_pos rfl];show 2+J.length≤2000;exact zn303 hJ
    | false=>rw[if_neg (by decide)];show 0+J.length≤2000;exact zn304 hJ
   ·refine ze02 (List.append_eq_nil_iff.mp q) fun q1 q2=>?_;rw[zIL q2];unfold ext1 at q1;cases hb:i.2.2 with
    | true=>rw[hb] at q1;cases q1
    | false=>rfl
  ·have en:nmL (i::J)=i::J:=if_neg h33;have et:trn (i::J)=false:=zzdef h33;rw[en,et];have go:∀ {w:List Nat},Wr i.1 w→w≠[]→w.head?≠some 94→Ptx (91::((w++(ext1 i++wri J))++[93])) (false,(i::J).map ends):=fun {w} hw hne hwh=>by
    refine zMH (by simp[hne]) (zGP (h.good i (by simp)) (h.far i (by simp)) hw hh.1 hh.2 h.tl.2) ?_ (by rw[List.length_map,List.length_cons];exact zznlv hJ (zznal _ _));cases w with
    | nil=>exact absurd rfl hne
    | cons a w=>exact hwh
   by_cases h94:i.1=94∨i.1=91
   ·have e:e1 i.1=[i.1]:=by rcases h94 with e | e<;>rw[e]<;>rfl
    rw[e];show Ptx (if i.1=33 then _ else 91::(if i.1=94∨i.1=91 then 92::i.1::(ext1 i++wri J) else _)++[93]) _;rw[if_neg h33,if_pos h94];refine go (w:=[92,i.1]) (.esc fun q=>?_) (by simp) (by simp);rcases h94 with e | e<;>rw[e] at q<;>revert q<;>decide
   ·have hw:=go (wr_e1 i.1) e1_ne;rcases zDR i.1 with ⟨e,_⟩ | ⟨e,_⟩
    ·rw[e] at hw ⊢;exact hw (by simp)
    ·rw[e] at hw ⊢;show Ptx (if i.1=33 then _ else 91::(if i.1=94∨i.1=91 then _ else i.1::(ext1 i++wri J))++[93]) _;rw[if_neg h33,if_neg h94];exact hw fun q=>h94 (.inl (zzosi q))
theorem zN7 {s:List Nat}(hs:s≠[])(hl:s.length≤1000)(h93:93∉s.drop (if s.head? = some 33 then 2 else 1)):Ptx (bt s) (brk6 s):=by
 rw[zKp hs (Nat.le_trans hl (by decide))];unfold flatB brk6;by_cases h:s.head? = some 33
 ·rw[if_pos h,if_pos h];rw[if_pos h] at h93;exact zMJ (J:=itemsOf (s.drop 1)) (zGi (by rw[List.drop_drop];exact h93) (by rw[List.length_drop];exact zn306 hl))
 ·rw[if_neg h,if_neg h];rw[if_neg h] at h93;exact zJn (J:=itemsOf s) (zGi h93 hl)
noncomputable abbrev Pc:=List Nat×Bool×List (Nat×Nat)
inductive Mn6:List Nat→List (Option Pc)→Prop
 | nil:Mn6 [] []
 | star {u:List Nat} {P:List (Option Pc)}:Mn6 u P→Mn6 (42::u) (none::P)
 | any {u:List Nat} {P:List (Option Pc)}:Mn6 u P→Mn6 (63::u) (some ([46],true,[])::P)
 | brk {u:List Nat} {j:Nat} {P:List (Option Pc)}:zAp u=some j→Mn6 (u.drop (j+1)) P→Mn6 (91::u) (some (bt (u.take j),brk6 (u.take j))::P)
 | opn {u:List Nat} {P:List (Option Pc)}:zAp u=none→Mn6 u P→Mn6 (91::u) (some ([92,91],false,[(91,91)])::P)
 | lit {c:Nat} {u:List Nat} {P:List (Option Pc)}:c≠42→c≠63→c≠91→Mn6 u P→Mn6 (c::u) (some (zAX specials c,false,[(c,c)])::P)
theorem Mn6.total:∀ (n:Nat) (u:List Nat),u.length≤n→∃ P,Mn6 u P
 | _,[],_=>⟨[],.nil⟩
 | 0,c::u,h=>absurd h (Nat.not_succ_le_zero _)
 | n+1,c::u,h=>by
  have hu:u.length≤n:=Nat.le_of_succ_le_succ h;refine ze11 (Mn6.total n u hu) fun P hP=>?_;by_cases h42:c=42
  ·rw[h42];exact⟨_,.star hP⟩
  ·by_cases h63:c=63
   ·rw[h63];exact⟨_,.any hP⟩
   ·by_cases h91:c=91
    ·rw[h91];cases hc:zAp u with
     | none=>exact⟨_,.opn hc hP⟩
     | some j=>
      obtain⟨P2,hP2⟩:=Mn6.total n (u.drop (j+1)) (by rw[List.length_drop];exact zznlt (Nat.sub_le _ _) hu);exact⟨_,.brk hc hP2⟩
    ·exact⟨_,.lit h42 h63 h91 hP⟩
theorem zHh {u:List Nat}{j:Nat}(h:zAp u=some j):u=u.take j++93::u.drop (j+1)∧(if u[0]? = some 33 then 2 else 1)≤j∧93∉(u.take j).drop (if u[0]? = some 33 then 2 else 1):=by
 rw[zDg] at h;generalize (if u[0]? = some 33 then 2 else 1)=d at *;refine ze12 (Option.map_eq_some_iff.mp h) fun m hm z3=>?_;subst z3;refine ze02 (zH0 hm) fun h1 h2=>?_;have hl:d≤u.length:=by
  have:=(fi_lt hm).1;rw[List.length_drop] at this;exact zn307 this
 have e1:u.take (m+d)=u.take d++(u.drop d).take m:=by rw[Nat.add_comm,List.take_add]
 have e2:u.drop (m+d+1)=(u.drop d).drop (m+1):=by rw[List.drop_drop];congr 1;(clear h e1;exact zn308)
 refine⟨?_,Nat.le_add_left _ _,?_⟩
 ·rw[e1,e2,List.append_assoc,←h1,List.take_append_drop]
 ·rw[e1,List.drop_append_of_le_length (by rw[List.length_take];exact zn309 hl),List.drop_eq_nil_of_le (by rw[List.length_take];exact Nat.min_le_left _ _),List.nil_append];exact h2
theorem Mn6.ptx {u:List Nat}{P:List (Option Pc)}(h:Mn6 u P):u.length≤1000→∀ p,some p∈P→Ptx p.1 p.2:=by
 induction h with
 | nil=>intro _ p hp;cases hp
 | star _ ih=>
  intro hl p hp;rcases List.mem_cons.mp hp with h | h
  ·cases h
  ·exact ih (Nat.le_of_succ_le hl) p h
 | any _ ih=>
  intro hl p hp;rcases List.mem_cons.mp hp with h | h
  ·cases h;exact zJp
  ·exact ih (Nat.le_of_succ_le hl) p h
 | @brk u j P hc _ ih=>
  intro hl p hp;have hl':u.length≤1000:=Nat.le_of_succ_le hl;rcases List.mem_cons.mp hp with h | h
  ·cases h;have q:=zHh hc;have h1:=zEr hc;have hth:(u.take j).head? = u.head?:=by rw[List.head?_take,if_neg (Nat.ne_of_gt h1)]
   refine zN7 (zGG hc) (by rw[List.length_take];exact zznlt (Nat.min_le_right _ _) hl') ?_;rw[hth,List.head?_eq_getElem?];exact q.2.2
  ·exact ih (by rw[List.length_drop];exact zznlt (Nat.sub_le _ _) hl') p h
 | opn _ _ ih=>
  intro hl p hp;rcases List.mem_cons.mp hp with h | h
  ·cases h;exact zJo (by decide)
  ·exact ih (Nat.le_of_succ_le hl) p h
 | lit h42 h63 _ _ ih=>
  intro hl p hp;rcases List.mem_cons.mp hp with h | h
  ·cases h;exact zMI h42 h63
  ·exact ih (Nat.le_of_succ_le hl) p h
theorem Mn6.len {u:List Nat}{P:List (Option Pc)}(h:Mn6 u P):P.length≤u.length:=by
 induction h with
 | nil=>exact zznlr _
 | star _ ih=>exact zznss ih
 | any _ ih=>exact zznss ih
 | brk _ _ ih=>rw[List.length_drop] at ih;exact zznss (zznlt ih (Nat.sub_le _ _))
 | opn _ _ ih=>exact zznss ih
 | lit _ _ _ _ ih=>exact zznss ih
noncomputable def txts (seg:List Pc):List Nat:=(seg.map Prod.fst).flatten
theorem Mn6.runs {u:List Nat}{P:List (Option Pc)}(h:Mn6 u P):∀ R:List V,runsS (trGo (.obj 0) (.str [46]) u R)=lastA (txts (zAc (zAL (.obj 0) R) P).1) (runsS R)++(zAc (zAL (.obj 0) R) P).2.map txts:=by
 have step:∀ {u w:List Nat} {q:Bool×List (Nat×Nat)} {P:List (Option Pc)} {R:List V},(∀ R:List V,runsS (trGo (.obj 0) (.str [46]) u R)=lastA (txts (zAc (zAL (.obj 0) R) P).1) (runsS R)++(zAc (zAL (.obj 0) R) P).2.map txts)→
   runsS (trGo (.obj 0) (.str [46]) u (R++[.str w]))=lastA (txts (zAc (zAL (.obj 0) R) (some (w,q)::P)).1) (runsS R)++(zAc (zAL (.obj 0) R) (some (w,q)::P)).2.map txts:=fun {u w q P R} ih=>by
  have:=ih (R++[.str w]);rw[zC5,zCx,zEf] at this;exact this
 induction h with
 | nil=>
  intro R;show runsS (trGo _ _ [] R)=lastA [] (runsS R)++[];rw[zBj,zEe,List.append_nil]
 | star _ ih=>
  intro R;rw[zAx,if_pos rfl];cases hl:zAL (.obj 0) R with
  | true=>
   have:=ih R;rw[hl] at this;exact this
  | false=>
   have:=ih (R++[.obj 0]);rw[zC6,zCy,zHN,List.append_assoc] at this;refine this.trans ?_;show runsS R++_=lastA [] (runsS R)++_;rw[zEe];rfl
 | any _ ih=>
  intro R;rw[zAx,if_neg (by decide),if_pos rfl];exact step ih
 | brk hc _ ih=>
  intro R;rw[zAx,if_neg (by decide),if_neg (by decide),if_pos rfl,hc];exact step ih
 | opn hc _ ih=>
  intro R;rw[zAx,if_neg (by decide),if_neg (by decide),if_pos rfl,hc];exact step ih
 | lit h1 h2 h3 _ ih=>
  intro R;rw[zAx,if_neg h1,if_neg h2,if_neg h3];exact step ih
theorem Mn6.rn {u:List Nat}{P:List (Option Pc)}(h:Mn6 u P):rnOf u=txts (zAc false P).1::(zAc false P).2.map txts:=h.runs []
noncomputable abbrev sgP (seg:List Pc):Sg:=seg.map Prod.snd
theorem zHx {r:List Nat}:∀ {seg:List Pc},(∀ p∈seg,Ptx p.1 p.2)→Soft r→Soft (txts seg++r)
 | [],_,h=>h
 | p::seg,hp,_=>by
  show Soft ((p.1++txts seg)++r);rw[List.append_assoc];exact(hp p zzlms).hd
theorem zHE {T r:List Nat}{ss:List St}:∀ {seg:List Pc} {k:Nat},(∀ p∈seg,Ptx p.1 p.2)→T.drop k=txts seg++r→Soft r→zAq T (k+(txts seg).length) ss→zAq T k ((sgP seg).map oneS++ss)
 | [],_,_,_,_,hs=>hs
 | p::seg,k,hp,h,hr,hs=>by
  have h1:T.drop k=p.1++(txts seg++r):=h.trans (zzlaa ..);have hq:∀ p∈seg,Ptx p.1 p.2:=fun q hq=>hp q (zzlmc _ hq);refine(hp p zzlms).rd h1 (zHx hq hr) (zHE hq (drA h1) hr ?_);rw[Nat.add_assoc,←List.length_append];exact hs
theorem zJm {T:List Nat}:∀ {segs:List (List Pc)} {k:Nat},(∀ s∈segs,∀ p∈s,Ptx p.1 p.2)→T.drop k=zBa (segs.map txts)→zAq T k (restS (segs.map sgP))
 | [],_,_,h=>.done (List.drop_eq_nil_iff.mp h)
 | [x],k,hp,h=>by
  have h1:T.drop k=46::42::txts x:=h;obtain⟨q,hq⟩:=zLb (r:=txts x) (by rw[←List.append_nil (txts x)];exact zHx (hp x zzlms) zFh);have h2:T.drop (k+2)=txts x++[]:=by rw[List.append_nil];exact(dr (dr h1).2).2
  have h3:=zHE (ss:=[]) (hp x zzlms) h2 zFh (.done (List.drop_eq_nil_iff.mp (drA h2)));rw[List.append_nil] at h3;exact .word (p:=([46,42],.w wMost)) (lt_dr h1) (by rw[h1];exact hq) h3
 | x::y::X,k,hp,h=>by
  have h1:T.drop k=[40,63,62]++(46::42::63::(txts x++(41::zBa ((y::X).map txts)))):=h.trans (by
   show [40,63,62,46,42,63]++txts x++[41]++_=_;rw[List.append_assoc,List.append_assoc];rfl)
  refine ze11 (zLc (r:=46::42::63::(txts x++(41::zBa ((y::X).map txts))))) fun q1 hq1=>?_;refine ze11 (zJV (r:=txts x++(41::zBa ((y::X).map txts)))) fun q2 hq2=>?_;refine ze11 (zLd (r:=zBa ((y::X).map txts))) fun q3 hq3=>?_;have h2:=drA h1;have h3:T.drop (k+3+3)=txts x++(41::zBa ((y::X).map txts)):=drA (a:=[46,42,63]) h2;have h4:=drA h3;have ih:=zJm (segs:=y::X) (fun s hs=>hp s (zzlmc _ hs)) (dr h4).2;have h5:zAq T (k+3+3+(txts x).length) (.w wFree::restS ((y::X).map sgP)):=.word (p:=([41],.w wFree)) (lt_dr h4) (by rw[h4];exact hq3) ih;have h6:=zHE (hp x zzlms) h3 (zCv (by decide)) h5;exact .word (p:=([40,63,62],.w wHold)) (lt_dr h1) (by rw[h1];exact hq1) (.word (p:=([46,42,63],.w zDo)) (lt_dr h2) ((congrArg fnd h2).trans hq2) h6)
theorem zKI {u:List Nat}{P:List (Option Pc)}(h:Mn6 u P)(hu:u.length≤1000):zAq (textOf (rnOf u)) 0 ((sgP (zAc false P).1).map oneS++restS ((zAc false P).2.map sgP)):=by
 rw[h.rn];have hp:=h.ptx hu;have h1:∀ p∈(zAc false P).1,Ptx p.1 p.2:=fun p hq=>hp p (zBb (.inl hq));have h2:(textOf (txts (zAc false P).1::(zAc false P).2.map txts)).drop 0=txts (zAc false P).1++zBa ((zAc false P).2.map txts):=rfl;exact zHE h1 h2 zMz (zJm (fun s hs p hq=>hp p (zBb (.inr ⟨s,hs,hq⟩))) (drA h2))
noncomputable def zDw:List (Str×Nat):=[("one",0),("sign",1)]
noncomputable def zCJ:SF:=(seqS (retS (booE (t2 (b2 (nmC 0) (kI 0) idxV) (booE (t2 (valN (compF [2,3] (seqI (b2 (nmC 0) (kI 1) idxV)) (tgT [2,3]) (zEF (nmC 2) (nmC 1) (nmC 3) leV leV) (nmE 2))) (lstE kA0) neV)) neV)))
 nilS)
theorem zIV {neg:Bool}{ps:List (Nat×Nat)}{c:Nat}(hl:ps.length≤100000):Ret zCJ (fr [vl (St.one neg ps).v,vl (.str [c]),none,none] []) (.bool (neg != inP ps c)):=by
 unfold zCJ;refine zBv (q_ret (zEB ?_));have h2:(compF [2,3] (seqI (b2 (nmC 0) (kI 1) idxV)) (tgT [2,3]) (zEF (nmC 2) (nmC 1) (nmC 3) leV leV) (nmE 2)) (fr [vl (St.one neg ps).v,vl (.str [c]),none,none] [])=some ((ps.filter fun q=>decide (q.1≤c)&&decide (c≤q.2)).map fun q=>V.str [q.1]):=
  zGD (q1:=fun q:Nat×Nat=>V.str [q.1]) (q2:=fun q=>V.str [q.2]) ⟨rfl⟩ ⟨rfl⟩ (zBL (x_b2 (x_nmC ⟨rfl⟩) x_k1 (zCC ⟨rfl⟩)) o_itL) ⟨zznlt hl (by decide)⟩
   (fun q _x=>zL7 (x_nmC ⟨rfl⟩) (x_nmC ⟨rfl⟩) (x_nmC ⟨rfl⟩) o_le1 o_le1) (fun q _x _x=>x_nmE ⟨rfl⟩)
 have h3:∀ v∈(ps.filter fun q=>decide (q.1≤c)&&decide (c≤q.2)).map fun q=>V.str [q.1],noObj v=true:=fun v hv=>by
  obtain⟨q,_,rfl⟩:=List.mem_map.mp hv;rfl
 have e:(!((ps.filter fun q=>decide (q.1≤c)&&decide (c≤q.2)).map fun q=>V.str [q.1]).isEmpty)=inP ps c:=by
  unfold inP;rw[Bool.eq_iff_iff];simp[List.isEmpty_iff,List.filter_eq_nil_iff]
 refine Eq.trans (x_t2 (x_b2 (x_nmC ⟨rfl⟩) x_k0 (zCC ⟨rfl⟩)) (zEB (x_t2 (zBK h2) (x_lst x_kA0 ⟨Nat.zero_le _⟩) (o_ne (eq_nil h3)))) ne_bb) ?_;rw[e]
noncomputable def zA0:List V→Option V:=ctr (fun xs=>∃ neg ps c,ps.length≤100000∧xs=[(St.one neg ps).v,.str [c]]) zCJ 2
theorem zIU {neg:Bool}{ps:List (Nat×Nat)}{c:Nat}(hl:ps.length≤100000):zA0 [(St.one neg ps).v,.str [c]]=some (.bool (neg != inP ps c)):=zCR ⟨neg,ps,c,hl,rfl⟩ (zIV hl)
/- _law_bracket -/
noncomputable def zB9:List (Str×Nat):=[("inner",0),("barred",1),("pairs",2),("k",3),("wide",4),("low",5),("high",6)]
noncomputable abbrev brk_w:EF:=ite3 (tAnd (t2 (s3 (nmC 0) (b2 (nmC 3) (kI 1) addV) (b2 (nmC 3) (kI 2) addV)) (kS [45]) eqV) (tAnd (t2 (b2 (nmC 3) (kI 2) addV) (bnd (nmC 0) lenV) ltV) (kT true))) (kI 2) (kI 0)
noncomputable def zA1:SF:=(seqS (asg brk_w 4)
 (seqS (tupR [5,6] (bCons (bV (b2 (nmC 0) (nmC 3) idxV)) (bCons (bV (b2 (nmC 0) (b2 (nmC 3) (nmC 4) addV) idxV)) kL0)))
 (seqS (ifS (tAnd (t2 (nmC 5) (kS [33]) eqV) (tAnd (t2 (nmC 6) (nmC 5) geV) (tAnd (t2 (nmC 2) (lstE kA0) eqV) (tAnd (notT (tT (nmC 1))) (kT true))))) (seqS (asg (kB true) 1)
 (seqS (zA6 (iteN (t2 (nmC 4) (kI 2) eqV) (lstN (aCons (tupE (aCons (kS [45]) (aCons (kS [45]) kA0))) (aCons (tupE (aCons (nmE 6) (aCons (nmE 6) kA0))) kA0))) (lstN kA0)) 2)
 nilS)) (seqS (ifS (t2 (nmC 6) (nmC 5) geV) (seqS (appS 2 (tupE (aCons (nmE 5) (aCons (nmE 6) kA0))))
 nilS) nilS)
 nilS))
 (seqS (aug 3 (b2 (nmC 4) (kI 1) addV))
 nilS))))
noncomputable def zBl:List Slot→Option Bool:=(t2 (nmC 3) (bnd (nmC 0) lenV) ltV)
noncomputable def zBH:SF:=(seqS (tupR [1,2,3] (bCons (bV (booE (t2 (b2 (nmC 0) (kI 0) idxV) (kS [33]) eqV))) (bCons (bO (lstN kA0)) (bCons (bV (kI 0)) kL0))))
 (seqS (asg (s3 (nmC 0) (ite3 (tT (nmC 1)) (kI 1) (kI 0)) kN) 0)
 (seqS (zAk 100000 zBl zA1)
 (seqS (frz 2 (retS (tupE (aCons (nmE 1) (aCons (nmE 2) kA0)))))
 nilS))))
theorem zKu {t:List Slot→Option Bool}{f h:List Slot→Option (List V)}{η:List Slot}{b:Bool}{r:List V}(ht:t η=some b)(hb:b=true)(hf:f η=some r):iteN t f h η=some r:=by unfold iteN;rw[ht,hb];exact hf
theorem zKv {t:List Slot→Option Bool}{f h:List Slot→Option (List V)}{η:List Slot}{b:Bool}{r:List V}(ht:t η=some b)(hb:b=false)(hf:h η=some r):iteN t f h η=some r:=by unfold iteN;rw[ht,hb];exact hf
noncomputable abbrev Bs6:=Bool×List (Nat×Nat)
noncomputable def turns (b:Bs6)(x y:Nat):Bool:=decide (x=33)&&(decide (x≤y)&&(b.2.isEmpty&&!b.1))
noncomputable def bstep (b:Bs6)(i:It):Bs6:=if turns b i.1 i.2.1=true then (true,if i.2.2=true then [(45,45),(i.2.1,i.2.1)] else []) else if i.1≤i.2.1 then (b.1,b.2++[ends i]) else b
theorem zCW {b:Bs6}(h:b.1=true∨b.2≠[]):∀ {l:List It} {c:Bs6},(c.1=b.1∧∃ r,c.2=b.2++r)→l.foldl bstep c=(c.1,c.2++(l.filter okI).map ends)
 | [],c,_=>by rw[List.filter_nil,List.map_nil,List.append_nil];rfl
 | i::l,c,hc=>by
  have hn:turns c i.1 i.2.1=false:=by
   unfold turns;refine ze02 hc fun h1 z4=>?_;clear hc;refine ze11 z4 fun r h2=>?_;clear z4;rcases h with h | h
   ·rw[h1,h];simp
   ·rw[h2];have:(b.2++r).isEmpty=false:=by cases hb:b.2 with | nil=>exact absurd hb h | cons a t=>rfl
    rw[this];simp
  have hs:bstep c i=if i.1≤i.2.1 then (c.1,c.2++[ends i]) else c:=by unfold bstep;rw[hn];rfl
  rw[List.foldl_cons,hs,List.filter_cons];by_cases hle:i.1≤i.2.1
  ·refine ze02 hc fun h1 z5=>?_;clear hc;refine ze11 z5 fun r h2=>?_;clear z5;rw[if_pos hle,if_pos (show okI i=true from decide_eq_true hle),zCW h (l:=l) (c:=(c.1,c.2++[ends i])) ⟨h1,r++[ends i],by show c.2++[ends i]=b.2++(r++[ends i]);rw[h2,List.append_assoc]⟩];show (c.1,(c.2++[ends i])++_)=(c.1,c.2++(ends i::_));rw[List.append_assoc];rfl
  ·rw[if_neg hle,if_neg (by unfold okI;rw[decide_eq_false hle];exact Bool.false_ne_true)];exact zCW h (l:=l) hc
theorem zKr {l:List It}:l.foldl bstep (true,[])=(true,(l.filter okI).map ends):=(zCW (b:=(true,[])) (.inl rfl) ⟨rfl,[],rfl⟩).trans (by rw[List.nil_append])
theorem zEu:∀ {l:List It},l.foldl bstep (false,[])=(trn (l.filter okI),(nmL (l.filter okI)).map ends)
 | []=>rfl
 | i::l=>by
  rw[List.foldl_cons,List.filter_cons];by_cases hle:i.1≤i.2.1
  ·rw[if_pos (show okI i=true from decide_eq_true hle)];by_cases h33:i.1=33
   ·have ht:turns (false,[]) i.1 i.2.1=true:=by unfold turns;rw[decide_eq_true h33,decide_eq_true hle];rfl
    have hs:bstep (false,[]) i=(true,if i.2.2=true then [(45,45),(i.2.1,i.2.1)] else []):=if_pos ht;have e1:trn (i::l.filter okI)=true:=zzdet h33;have e2:nmL (i::l.filter okI)=(if i.2.2=true then [(45,45,false),(i.2.1,i.2.1,false)] else [])++l.filter okI:=if_pos h33;rw[hs,e1,e2,zCW (b:=(true,[])) (c:=(true,if i.2.2=true then [(45,45),(i.2.1,i.2.1)] else [])) (.inl rfl) ⟨rfl,_,rfl⟩,List.map_append];cases i.2.2<;>rfl
   ·have ht:turns (false,[]) i.1 i.2.1=false:=by unfold turns;rw[decide_eq_false h33];rfl
    have hs:bstep (false,[]) i=(false,[ends i]):=by unfold bstep;rw[ht];exact if_pos hle
    have e1:trn (i::l.filter okI)=false:=zzdef h33;have e2:nmL (i::l.filter okI)=i::l.filter okI:=if_neg h33;rw[hs,e1,e2,zCW (b:=(false,[ends i])) (c:=(false,[ends i])) (.inr (by simp)) ⟨rfl,[],(List.append_nil _).symm⟩];rfl
  ·have ht:turns (false,[]) i.1 i.2.1=false:=by unfold turns;rw[decide_eq_false hle];simp
   have hs:bstep (false,[]) i=(false,[]):=by unfold bstep;rw[ht];exact if_neg hle
   rw[hs,if_neg (by unfold okI;rw[decide_eq_false hle];exact Bool.false_ne_true)];exact zEu
noncomputable abbrev brF (s:List Nat)(b:Bs6)(k:Nat)(w lo hi:Option El):List Slot:=fr [vl (.str s),vl (.bool b.1),ol (b.2.map vPr),vl (.int (k:Nat)),w,lo,hi] []
theorem zNY {l:List Nat}{k:Nat}:(l.take (k+1)).drop k=l[k]?.toList:=by
 rw[List.drop_take,Nat.add_sub_cancel_left,←List.head?_drop];cases l.drop k<;>rfl
theorem sl_is {l:List Nat}{k c:Nat}:((l.take (k+1)).drop k=[c])↔l[k]? = some c:=by
 rw[zNY];cases l[k]? with
 | none=>simp
 | some d=>simp
theorem zLq {s:List Nat}{b:Bs6}{k:Nat}{w lo hi:Option El}:brk_w (brF s b k w lo hi)=some (.int ((if s[k+1]? = some 45∧k+2<s.length then 2 else 0:Nat):Int)):=by
 have ht:tAnd (t2 (s3 (nmC 0) (b2 (nmC 3) (kI 1) addV) (b2 (nmC 3) (kI 2) addV)) (kS [45]) eqV) (tAnd (t2 (b2 (nmC 3) (kI 2) addV) (bnd (nmC 0) lenV) ltV) (kT true)) (brF s b k w lo hi) =
   some (decide ((s.take (k+2)).drop (k+1)=[45])&&(decide (k+2<s.length)&&true)):=
  x_and (x_t2 (x_s3 (x_nmC ⟨rfl⟩) (x_b2 (x_nmC ⟨rfl⟩) x_k1 zAm) (x_b2 (x_nmC ⟨rfl⟩) x_k2 zAm) o_slS) x_kS o_eqS) (x_and (x_t2 (x_b2 (x_nmC ⟨rfl⟩) x_k2 zAm) (x_bnd (x_nmC ⟨rfl⟩) zBe) o_ltN) x_kT)
 have e:decide ((s.take (k+2)).drop (k+1)=[45])=decide (s[k+1]? = some 45):=decide_eq_decide.mpr sl_is;rw[e,Bool.and_true,←Bool.decide_and] at ht;by_cases h:s[k+1]? = some 45∧k+2<s.length
 ·rw[if_pos h];exact zBA ht (zzdet h) x_k2
 ·rw[if_neg h];exact zBn ht (zzdef h) x_k0
theorem zLr {s:List Nat}{b:Bs6}{k wd x y:Nat}{w lo hi:Option El}(hw:brk_w (brF s b k w lo hi)=some (.int (wd:Nat)))(hx:s[k]? = some x)(hy:s[k+wd]? = some y)(hz:b.2.length<1000000):
  ∃ w' lo' hi',zA1 (brF s b k w lo hi)=some (.next,brF s (bstep b (x,y,decide (wd=2))) (k+(wd+1)) w' lo' hi'):=by
 refine⟨vl (.int (wd:Nat)),vl (.str [x]),vl (.str [y]),?_⟩;unfold zA1;refine s_seq (s_asg hw ⟨rfl⟩ ⟨rfl⟩) (s_seq (zGb (es:=[.val (.str [x]),.val (.str [y])]) (zAE (x_bV (x_b2 (x_nmC ⟨rfl⟩) (x_nmC ⟨rfl⟩) (zAZ ⟨hx⟩))) (zAE (x_bV (x_b2 (x_nmC ⟨rfl⟩) (x_b2 (x_nmC ⟨rfl⟩) (x_nmC ⟨rfl⟩) zAm) (zAZ ⟨hy⟩))) x_kL0)) ⟨rfl⟩ ⟨rfl⟩ ⟨zznbl rfl⟩ ⟨rfl⟩) ?_);have hge:∀ {η:List Slot} (_:rdc η 5=some (.str [x])) (_:rdc η 6=some (.str [y])),t2 (nmC 6) (nmC 5) geV η=some (decide (x≤y)):=fun h5 h6=>x_t2 (x_nmC ⟨h6⟩) (x_nmC ⟨h5⟩) (o_ge o_le1)
 have ht:(tAnd (t2 (nmC 5) (kS [33]) eqV) (tAnd (t2 (nmC 6) (nmC 5) geV) (tAnd (t2 (nmC 2) (lstE kA0) eqV) (tAnd (notT (tT (nmC 1))) (kT true))))) (brF s b k (vl (.int (wd:Nat))) (vl (.str [x])) (vl (.str [y])))=some (turns b x y):=by
  refine x_t (x_and (x_t2 (x_nmC ⟨rfl⟩) x_kS o_eq1) (x_and (hge rfl rfl) (x_and (x_t2 (x_nmC ⟨rfl⟩) (x_lst x_kA0 ⟨Nat.zero_le _⟩) (eq_nil fun v hv=>by obtain⟨q,_,rfl⟩:=List.mem_map.mp hv;rfl)) (x_and (zII (x_tT (x_nmC ⟨rfl⟩) zCB)) x_kT)))) ?_;unfold turns;rw[Bool.and_true];cases b.2<;>rfl
 have fin:∀ {b':Bs6},(seqS (aug 3 (b2 (nmC 4) (kI 1) addV)) nilS) (brF s b' k (vl (.int (wd:Nat))) (vl (.str [x])) (vl (.str [y])))=some (.next,brF s b' (k+(wd+1)) (vl (.int (wd:Nat))) (vl (.str [x])) (vl (.str [y]))):=fun {_}=>s_seq (s_aug (x_b2 (x_nmC ⟨rfl⟩) x_k1 zAm) ⟨rfl⟩ i_N ⟨rfl⟩) (s_nil ⟨rfl⟩);by_cases htn:turns b x y=true
 ·have e:bstep b (x,y,decide (wd=2))=(true,if decide (wd=2)=true then [(45,45),(y,y)] else []):=if_pos htn;rw[e];refine s_seq (zAs ht htn (s_seq (s_asg (v:=.bool true) x_kB ⟨rfl⟩ ⟨rfl⟩) (s_seq (zN3 (v:=(if decide (wd=2)=true then [(45,45),(y,y)] else []).map vPr) ?_ ⟨rfl⟩ ⟨rfl⟩) (s_nil ⟨rfl⟩)))) (fin (b':=(true,if decide (wd=2)=true then [(45,45),(y,y)] else [])));by_cases h2:wd=2
  ·rw[if_pos (decide_eq_true h2)];exact zKu (x_t2 (x_nmC ⟨rfl⟩) x_k2 o_eqN) (zzdet h2) (zCo (zAb (x_tup (zAb x_kS (zAb x_kS x_kA0)) ⟨zznbl rfl⟩) (zAb (x_tup (zAb (x_nmE ⟨rfl⟩) (zAb (x_nmE ⟨rfl⟩) x_kA0)) ⟨zznbl rfl⟩) x_kA0)) ⟨zznbl rfl⟩)
  ·rw[if_neg (by rw[decide_eq_false h2];exact Bool.false_ne_true)];exact zKv (x_t2 (x_nmC ⟨rfl⟩) x_k2 o_eqN) (zzdef h2) (zCo x_kA0 ⟨Nat.zero_le _⟩)
 ·have htf:turns b x y=false:=by simpa using htn
  by_cases hle:x≤y
  ·have e:bstep b (x,y,decide (wd=2))=(b.1,b.2++[(x,y)]):=by unfold bstep;rw[htf];exact if_pos hle
   have em:b.2.map vPr++[V.tup [.str [x],.str [y]]]=(b.2++[(x,y)]).map vPr:=by rw[List.map_append];rfl
   rw[e];have hap:appS 2 (tupE (aCons (nmE 5) (aCons (nmE 6) kA0))) (brF s b k (vl (.int (wd:Nat))) (vl (.str [x])) (vl (.str [y])))=some (.next,brF s (b.1,b.2++[(x,y)]) k (vl (.int (wd:Nat))) (vl (.str [x])) (vl (.str [y]))):=
    by
     refine s_app (x:=b.2.map vPr) (v:=.tup [.str [x],.str [y]]) ?_ ⟨rfl⟩ ⟨by rw[List.length_map];exact hz⟩ ⟨by rw[em];rfl⟩;exact x_tup (zAb (x_nmE ⟨rfl⟩) (zAb (x_nmE ⟨rfl⟩) x_kA0)) ⟨zznbl rfl⟩
   exact s_seq (zAi ht htf (s_seq (zAs (hge rfl rfl) (zzdet hle) (s_seq hap (s_nil ⟨rfl⟩))) (s_nil ⟨rfl⟩))) fin
  ·have e:bstep b (x,y,decide (wd=2))=b:=by unfold bstep;rw[htf];exact if_neg hle
   rw[e];exact s_seq (zAi ht htf (s_seq (zAi (hge rfl rfl) (zzdef hle) (s_nil ⟨rfl⟩)) (s_nil ⟨rfl⟩))) fin
theorem zKq {b:Bs6}{i:It}:(bstep b i).2.length≤b.2.length+2:=by
 unfold bstep;split
 ·split<;>simp
 ·split
  ·simp
  ·exact zznar _ _
theorem zIf {s:List Nat}:∀ (n:Nat) (u:List Nat) (k:Nat) (b:Bs6) (w lo hi:Option El),s.drop k=u→k≤s.length→u.length<n→b.2.length+2*u.length<1000000→
  ∃ k' w' lo' hi',zAk n zBl zA1 (brF s b k w lo hi)=some (.next,brF s ((prs u).foldl bstep b) k' w' lo' hi')
 | 0,_,_,_,_,_,_,_,_,h,_=>absurd h (Nat.not_lt_zero _)
 | n+1,[],k,b,w,lo,hi,hu,hk,_,_=>by
  have hl:s.length≤k:=List.drop_eq_nil_iff.mp hu;exact⟨k,w,lo,hi,zAy (x_t (x_t2 (x_nmC ⟨rfl⟩) (x_bnd (x_nmC ⟨rfl⟩) zBe) o_ltN) (zzdef (Nat.not_lt.mpr hl)))⟩
 | n+1,x::u,k,b,w,lo,hi,hu,hk,hn,hR=>by
  have hx:=(dr hu).1;have hu1:=(dr hu).2;have hkl:k<s.length:=(List.getElem?_eq_some_iff.mp hx).1
  have hul:k+1+u.length=s.length:=by
   have:=congrArg List.length hu1;rw[List.length_drop] at this;exact zn310 this hkl
  have hT:zBl (brF s b k w lo hi)=some true:=x_t (x_t2 (x_nmC ⟨rfl⟩) (x_bnd (x_nmC ⟨rfl⟩) zBe) o_ltN) (zzdet hkl);rw[List.length_cons] at hn hR;have h45:s[k+1]? = u.head?:=by rw[←List.head?_drop,hu1]
  have hf:=zLq (s:=s) (b:=b) (k:=k) (w:=w) (lo:=lo) (hi:=hi)
  have step:∀ {wd y:Nat} {v:List Nat},brk_w (brF s b k w lo hi)=some (.int (wd:Nat))→s[k+wd]? = some y→s.drop (k+(wd+1))=v→v.length≤u.length→prs (x::u)=(x,y,decide (wd=2))::prs v→
    ∃ k' w' lo' hi',zAk (n+1) zBl zA1 (brF s b k w lo hi)=some (.next,brF s ((prs (x::u)).foldl bstep b) k' w' lo' hi'):=by
   intro wd y v hf hy hv hvl hp;obtain⟨w1,lo1,hi1,ht⟩:=zLr (lo:=lo) (hi:=hi) hf hx hy (zznlu (zznar _ _) hR);have hb:=zKq (b:=b) (i:=(x,y,decide (wd=2)));obtain⟨k',w',lo',hi',hl⟩:=zIf n v (k+(wd+1)) (bstep b (x,y,decide (wd=2))) w1 lo1 hi1 hv (by have:=(List.getElem?_eq_some_iff.mp hy).1;exact this) (zn313 hn hvl) (zn314 hR hb hvl);refine⟨k',w',lo',hi',?_⟩;rw[zAI hT ht,hl,hp,List.foldl_cons]
  by_cases hc:s[k+1]? = some 45∧k+2<s.length
  ·rw[if_pos hc] at hf;rw[h45] at hc;obtain⟨y,v,rfl⟩:∃ y v,u=45::y::v:=by
    match u,hul,hc with
    | [],_,hc=>cases hc.1
    | [z],hul,hc=>exact absurd hc.2 (by simp at hul;exact zn315 hul)
    | z::y::v,_,hc=>exact⟨y,v,by rw[Option.some.inj hc.1]⟩
   have h3:=dr hu1;have h4:=dr h3.2;exact step hf (y:=y) (v:=v) h4.1 h4.2 (by simp;exact Nat.le_add_right_of_le (zznar _ _)) zKS
  ·rw[if_neg hc] at hf;refine step hf hx hu1 (zznlr _) ?_;exact zMK fun q=>hc ⟨by rw[h45,←q.1,List.head?_eq_getElem?],by lia⟩
theorem zGy {s:List Nat}(hs:s≠[])(hl:s.length≤1000):Ret zBH (fr [vl (.str s),none,none,none,none,none,none] []) (St.one (brk6 s).1 (brk6 s).2).v:=by
 obtain⟨a,t,rfl⟩:∃ a t,s=a::t:=by cases s with | nil=>exact absurd rfl hs | cons a t=>exact⟨a,t,rfl⟩
 have h1:booE (t2 (b2 (nmC 0) (kI 0) idxV) (kS [33]) eqV) (fr [vl (.str (a::t)),none,none,none,none,none,none] [])=some (.bool (decide (a=33))):=zEB (x_t2 (x_b2 (x_nmC ⟨rfl⟩) x_k0 (zAZ ⟨rfl⟩)) x_kS o_eq1)
 have h2:(s3 (nmC 0) (ite3 (tT (nmC 1)) (kI 1) (kI 0)) kN) (brF (a::t) (decide (a=33),[]) 0 none none none)=some (.str (if a=33 then t else a::t)):=by
  by_cases h:a=33
  ·rw[if_pos h];exact x_s3 (x_nmC ⟨rfl⟩) (zBA (x_tT (x_nmC ⟨rfl⟩) zCB) (zzdet h) x_k1) x_kN zD7
  ·rw[if_neg h];exact x_s3 (x_nmC ⟨rfl⟩) (zBn (x_tT (x_nmC ⟨rfl⟩) zCB) (zzdef h) x_k0) x_kN zD7
 have hlen:(if a=33 then t else a::t).length≤1000:=by
  split
  ·exact Nat.le_of_succ_le hl
  ·exact hl
 have e:(prs (if a=33 then t else a::t)).foldl bstep (decide (a=33),[])=brk6 (a::t):=by
  unfold brk6;by_cases h:a=33
  ·rw[if_pos h,decide_eq_true h,zKr];exact(if_pos (congrArg some h)).symm
  ·rw[if_neg h,decide_eq_false h,zEu];exact(if_neg fun q=>h (zzosi q)).symm
 obtain⟨k',w',lo',hi',hb⟩:=zIf (s:=if a=33 then t else a::t) 100000 (if a=33 then t else a::t) 0 (decide (a=33),[]) none none none rfl (Nat.zero_le _) (zznlu hlen (by decide)) (zznlu (Nat.add_le_add_left (Nat.mul_le_mul_left 2 hlen) 0) (by decide));rw[e] at hb;unfold zBH;exact q_seq (zGb (es:=[.val (.bool (decide (a=33))),.own [],.val (.int ((0:Nat):Int))]) (zAE (x_bV h1) (zAE (x_bO (zCo x_kA0 ⟨Nat.zero_le _⟩)) (zAE (x_bV x_k0) x_kL0))) ⟨rfl⟩ ⟨rfl⟩ ⟨zznbl rfl⟩ ⟨rfl⟩) (q_seq (s_asg h2 ⟨rfl⟩ ⟨rfl⟩) (q_seq hb
  (zBv (q_frz ⟨rfl⟩ ⟨rfl⟩ (q_ret (x_tup (zAb (x_nmE ⟨rfl⟩) (zAb (x_nmE ⟨rfl⟩) x_kA0)) ⟨zznbl rfl⟩))))))
noncomputable def zBG:List V→Option V:=ctr (fun xs=>∃ s:List Nat,s≠[]∧s.length≤1000∧xs=[.str s]) zBH 6
theorem zKs {s:List Nat}(hs:s≠[])(hl:s.length≤1000):zBG [.str s]=some (St.one (brk6 s).1 (brk6 s).2).v:=zCR ⟨s,hs,hl,rfl⟩ (zGy hs hl)
noncomputable def zDy:List (Str×Nat):=[("pattern",0),("items",1),("k",2),("close",3),("item",4)]
noncomputable abbrev it_cl:EF:=b3 (nmC 0) (kS [93]) (b2 (nmC 2) (ite3 (t2 (s3 (nmC 0) (b2 (nmC 2) (kI 1) addV) (b2 (nmC 2) (kI 2) addV)) (kS [33]) eqV) (kI 3) (kI 2)) addV) zGq
noncomputable abbrev zLN:EF:=ite3 (t2 (b2 (nmC 0) (nmC 2) idxV) (kS [42]) eqV) (kS [42]) (ite3 (t2 (b2 (nmC 0) (nmC 2) idxV) (kS [63]) eqV) (tupE (aCons (kB true) (aCons (lstE kA0) kA0))) (tupE (aCons (kB false) (aCons (lstE (aCons (tupE (aCons (b2 (nmC 0) (nmC 2) idxV) (aCons (b2 (nmC 0) (nmC 2) idxV) kA0))) kA0)) kA0))))
noncomputable def zAK:SF:=(seqS (asg it_cl 3)
 (seqS (asg zLN 4)
 (seqS (ifS (tAnd (t2 (b2 (nmC 0) (nmC 2) idxV) (kS [91]) eqV) (tAnd (t2 (nmC 3) (kI 0) gtV) (kT true))) (seqS (tupR [4,2] (bCons (bV (bndL (aCons (s3 (nmC 0) (b2 (nmC 2) (kI 1) addV) (nmE 3)) kA0) zBG)) (bCons (bV (nmE 3)) kL0)))
 nilS) nilS)
 (seqS (appS 1 (nmE 4))
 (seqS (aug 2 (kI 1))
 nilS)))))
noncomputable def zBy:List Slot→Option Bool:=(t2 (nmC 2) (bnd (nmC 0) lenV) ltV)
noncomputable def zCM:SF:=(seqS (tupR [1,2] (bCons (bO (lstN kA0)) (bCons (bV (kI 0)) kL0)))
 (seqS (zAk 100000 zBy zAK)
 (seqS (frz 1 (retS (nmE 1)))
 nilS)))
noncomputable def vI6:Option (Bool×List (Nat×Nat))→V
 | none=>.str [42]
 | some q=>(St.one q.1 q.2).v
noncomputable abbrev itF (p:List Nat)(R:List (Option (Bool×List (Nat×Nat))))(k:Nat)(c i:Option El):List Slot:=fr [vl (.str p),ol (R.map vI6),vl (.int (k:Nat)),c,i] []
section
variable {p u:List Nat} {R:List (Option (Bool×List (Nat×Nat)))} {k c:Nat} {cl it:Option El}
theorem zHS (h:p.drop k=c::u):it_cl (itF p R k cl it)=some (.int (match zAp u with | some j=>((k+1+j:Nat):Int) | none=>-1)):=by
 have h1:=(dr h).2
 have ht:t2 (s3 (nmC 0) (b2 (nmC 2) (kI 1) addV) (b2 (nmC 2) (kI 2) addV)) (kS [33]) eqV (itF p R k cl it)=some (decide (u[0]? = some 33)):=by
  refine x_t (x_t2 (x_s3 (x_nmC ⟨rfl⟩) (x_b2 (x_nmC ⟨rfl⟩) x_k1 zAm) (x_b2 (x_nmC ⟨rfl⟩) x_k2 zAm) o_slS) x_kS o_eqS) (decide_eq_decide.mpr ?_);rw[sl_is (l:=p) (k:=k+1),←List.head?_drop,h1,List.head?_eq_getElem?]
 have hd:b2 (nmC 2) (ite3 (t2 (s3 (nmC 0) (b2 (nmC 2) (kI 1) addV) (b2 (nmC 2) (kI 2) addV)) (kS [33]) eqV) (kI 3) (kI 2)) addV (itF p R k cl it)=some (.int ((k+1+(if u[0]? = some 33 then 2 else 1):Nat):Int)):=by
  by_cases q:u[0]? = some 33
  ·rw[if_pos q];exact x_b2 (x_nmC ⟨rfl⟩) (zBA ht (zzdet q) x_k3) zAm
  ·rw[if_neg q];exact x_b2 (x_nmC ⟨rfl⟩) (zBn ht (zzdef q) x_k2) zAm
 refine Eq.trans (x_b3 (x_nmC ⟨rfl⟩) x_kS hd zMQ) ?_;rw[zDg,←List.drop_drop,h1];cases fi 93 (u.drop (if u[0]? = some 33 then 2 else 1)) with
 | none=>rfl
 | some m=>
  show some (V.int (((k+1+(if u[0]? = some 33 then 2 else 1)+m:Nat)):Int))=some (V.int ((k+1+(m+(if u[0]? = some 33 then 2 else 1)):Nat):Int));rw[Nat.add_assoc (k+1),Nat.add_comm m]
theorem zJN (h:p.drop k=c::u):zLN (itF p R k cl it)=some (vI6 (if c=42 then none else if c=63 then some (true,[]) else some (false,[(c,c)]))):=by
 have hx:∀ {η:List Slot} (_:rdc η 0=some (.str p)) (_:rdc η 2=some (.int (k:Nat))),b2 (nmC 0) (nmC 2) idxV η=some (.str [c]):=fun h0 h2=>x_b2 (x_nmC ⟨h0⟩) (x_nmC ⟨h2⟩) (zAZ ⟨(dr h).1⟩);by_cases h42:c=42
 ·rw[if_pos h42];exact zBA (x_t2 (hx rfl rfl) x_kS o_eq1) (zzdet h42) x_kS
 ·rw[if_neg h42];refine zBn (x_t2 (hx rfl rfl) x_kS o_eq1) (zzdef h42) ?_;by_cases h63:c=63
  ·rw[if_pos h63];exact zBA (x_t2 (hx rfl rfl) x_kS o_eq1) (zzdet h63) (x_tup (zAb x_kB (zAb (x_lst x_kA0 ⟨Nat.zero_le _⟩) x_kA0)) ⟨zznbl rfl⟩)
  ·rw[if_neg h63];exact zBn (x_t2 (hx rfl rfl) x_kS o_eq1) (zzdef h63) (x_tup (zAb x_kB (zAb (x_lst (zAb (x_tup (zAb (hx rfl rfl) (zAb (hx rfl rfl) x_kA0)) ⟨zznbl rfl⟩) x_kA0) ⟨zznbl rfl⟩) x_kA0)) ⟨zznbl rfl⟩)
theorem it_T2:zBy (itF p R k cl it)=some (decide (k<p.length)):=x_t2 (x_nmC ⟨rfl⟩) (x_bnd (x_nmC ⟨rfl⟩) zBe) o_ltN
theorem zJM {x:Option (Bool×List (Nat×Nat))}(hz:R.length<1000000):(seqS (appS 1 (nmE 4)) (seqS (aug 2 (kI 1)) nilS)) (itF p R k cl (vl (vI6 x)))=some (.next,itF p (R++[x]) (k+1) cl (vl (vI6 x))):=by
 have e:R.map vI6++[vI6 x]=(R++[x]).map vI6:=by rw[List.map_append];rfl
 exact s_seq (s_app (x_nmE ⟨rfl⟩) ⟨rfl⟩ ⟨by rw[List.length_map];exact hz⟩ ⟨by rw[e]⟩) (s_seq (s_aug x_k1 ⟨rfl⟩ i_N ⟨rfl⟩) (s_nil ⟨rfl⟩))
theorem zFs (h:p.drop k=c::u)(hc:c≠91∨zAp u=none)(hz:R.length<1000000):∃ cl' it',zAK (itF p R k cl it)=some (.next,itF p (R++[if c=42 then none else if c=63 then some (true,[]) else some (false,[(c,c)])]) (k+1) cl' it'):=by
 refine⟨vl (.int (match zAp u with | some j=>((k+1+j:Nat):Int) | none=>-1)),vl (vI6 (if c=42 then none else if c=63 then some (true,[]) else some (false,[(c,c)]))),?_⟩;unfold zAK;refine s_seq (s_asg (zHS h) ⟨rfl⟩ ⟨rfl⟩) (s_seq (s_asg (zJN h) ⟨rfl⟩ ⟨rfl⟩) (s_seq (zAi (x_and (x_t2 (x_b2 (x_nmC ⟨rfl⟩) (x_nmC ⟨rfl⟩) (zAZ ⟨(dr h).1⟩)) x_kS o_eq1) (x_and (x_t2 (x_nmC ⟨rfl⟩) x_kI (o_gt o_ltI)) x_kT)) ?_ (s_nil ⟨rfl⟩)) (zJM hz)));rcases hc with hc | hc
 ·rw[decide_eq_false hc];rfl
 ·rw[hc,Bool.and_true];exact Bool.and_eq_false_iff.mpr (.inr (zzdef (fun h=>by cases h)))
theorem zOl {j:Nat}(h:p.drop k=91::u)(hj:zAp u=some j)(hp:p.length≤1000)(hz:R.length<1000000):∃ cl' it',zAK (itF p R k cl it)=some (.next,itF p (R++[some (brk6 (u.take j))]) (k+(j+2)) cl' it'):=by
 have hc:=zHS (R:=R) (cl:=cl) (it:=it) h;rw[hj] at hc;have hul:u.length≤p.length:=by
  have:=congrArg List.length h;rw[List.length_drop,List.length_cons] at this;exact zn316 this
 have hs:(p.take (k+1+j)).drop (k+1)=u.take j:=by rw[List.drop_take,Nat.add_sub_cancel_left,(dr h).2]
 have hb:=zKs (zGG hj) (zznlt (by rw[List.length_take];exact Nat.min_le_right _ _) (zznlt hul hp));rw[←hs] at hb;refine⟨vl (.int ((k+1+j:Nat):Int)),vl (vI6 (some (brk6 (u.take j)))),?_⟩;unfold zAK;have e:k+(j+2)=k+1+j+1:=by exact(Nat.succ_add _ _).symm
 rw[e];refine s_seq (s_asg hc ⟨rfl⟩ ⟨rfl⟩) (s_seq (s_asg (zJN h) ⟨rfl⟩ ⟨rfl⟩) (s_seq (zAs (x_and (x_t2 (x_b2 (x_nmC ⟨rfl⟩) (x_nmC ⟨rfl⟩) (zAZ ⟨(dr h).1⟩)) x_kS o_eq1) (x_and (x_t2 (x_nmC ⟨rfl⟩) x_k0 (o_gt o_ltN)) x_kT)) ?_ (s_seq (zGb (es:=[.val (vI6 (some (brk6 (u.take j)))),.val (.int ((k+1+j:Nat):Int))]) (zAE (x_bV (zA4 (zAb (x_s3 (x_nmC ⟨rfl⟩) (x_b2 (x_nmC ⟨rfl⟩) x_k1 zAm) (x_nmE ⟨rfl⟩) o_slS) x_kA0) (by rw[hs] at hb ⊢;exact hb))) (zAE (x_bV (x_nmE ⟨rfl⟩)) x_kL0)) ⟨rfl⟩ ⟨rfl⟩ ⟨zznbl rfl⟩ ⟨rfl⟩) (s_nil ⟨rfl⟩))) (zJM hz)));rw[decide_eq_true (by exact zn318:0<k+1+j)];rfl
end
theorem zM9 {p u:List Nat}{P:List (Option Pc)}(h:Mn6 u P)(hp:p.length≤1000):∀ (k n:Nat) (R:List (Option (Bool×List (Nat×Nat)))) (cl it:Option El),p.drop k=u→u.length<n→R.length+u.length<1000000→
  ∃ k' cl' it',zAk n zBy zAK (itF p R k cl it)=some (.next,itF p (R++P.map (Option.map Prod.snd)) k' cl' it'):=by
 have go:∀ {c:Nat} {u u':List Nat} {x:Option (Bool×List (Nat×Nat))} {L:List (Option (Bool×List (Nat×Nat)))} {k k1 n:Nat} {R:List (Option (Bool×List (Nat×Nat)))} {cl it:Option El},p.drop k=c::u→(∃ cl' it',zAK (itF p R k cl it)=some (.next,itF p (R++[x]) k1 cl' it'))→
   (∀ cl it:Option El,∃ k' cl' it',zAk n zBy zAK (itF p (R++[x]) k1 cl it)=some (.next,itF p (R++[x]++L) k' cl' it'))→∃ k' cl' it',zAk (n+1) zBy zAK (itF p R k cl it)=some (.next,itF p (R++x::L) k' cl' it'):=by
  intro c u u' x L k k1 n R cl it hd h1 h2;refine ze21 h1 fun cl1 it1 h1=>?_;refine ze31 (h2 cl1 it1) fun k' cl' it' h2=>?_;refine⟨k',cl',it',?_⟩;rw[zAI (x_t it_T2 (decide_eq_true (lt_dr hd))) h1,h2,List.append_assoc];rfl
 have sc:∀ {n m:Nat},m+1<n+1→m<n:=fun h=>Nat.lt_of_succ_lt_succ h;have sz:∀ {R:List (Option (Bool×List (Nat×Nat)))} {x:Option (Bool×List (Nat×Nat))} {m:Nat},R.length+(m+1)<1000000→(R++[x]).length+m<1000000:=fun {R x m} h=>by rw[List.length_append,List.length_singleton];exact zn28 h
 have s0:∀ {R:List (Option (Bool×List (Nat×Nat)))} {m:Nat},R.length+(m+1)<1000000→R.length<1000000:=fun h=>by exact zznlu (zznar _ _) h
 have ps:∀ {n m:Nat},m<n→∃ n',n=n'+1:=fun {n m} h=>⟨n-1,by exact zn29 h⟩
 induction h with
 | nil=>
  intro k n R cl it hd hn _;refine ze11 (ps hn) fun n z6=>?_;subst z6;refine⟨k,cl,it,?_⟩;rw[zAy (x_t it_T2 (decide_eq_false (Nat.not_lt.mpr (List.drop_eq_nil_iff.mp hd))))];show _=some (Out.next,itF p (R++[]) k cl it);rw[List.append_nil]
 | star _ ih=>
  intro k n R cl it hd hn hz;refine ze11 (ps hn) fun n z0=>?_;subst z0;exact go (u':=[]) hd (zFs hd (.inl (by decide)) (s0 hz)) fun cl it=>ih (k+1) n _ cl it (dr hd).2 (sc hn) (sz hz)
 | any _ ih=>
  intro k n R cl it hd hn hz;refine ze11 (ps hn) fun n z1=>?_;subst z1;exact go (u':=[]) hd (zFs hd (.inl (by decide)) (s0 hz)) fun cl it=>ih (k+1) n _ cl it (dr hd).2 (sc hn) (sz hz)
 | @brk u j P hj _ ih=>
  intro k n R cl it hd hn hz;refine ze11 (ps hn) fun n z2=>?_;subst z2;rw[List.length_cons] at hn hz;have hl:(u.drop (j+1)).length≤u.length:=by rw[List.length_drop];exact Nat.sub_le _ _
  refine go (u':=[]) hd (zOl hd hj hp (s0 hz)) fun cl it=>ih (k+(j+2)) n _ cl it ?_ (zznlu hl (sc hn)) (zznlu (Nat.add_le_add_left hl _) (sz hz));rw[show k+(j+2)=(k+1)+(j+1) by exact(Nat.succ_add _ _).symm,←List.drop_drop,(dr hd).2]
 | opn hj _ ih=>
  intro k n R cl it hd hn hz;refine ze11 (ps hn) fun n z3=>?_;subst z3;exact go (u':=[]) hd (zFs hd (.inr hj) (s0 hz)) fun cl it=>ih (k+1) n _ cl it (dr hd).2 (sc hn) (sz hz)
 | @lit c u P h1 h2 h3 _ ih=>
  intro k n R cl it hd hn hz;refine ze11 (ps hn) fun n z4=>?_;subst z4;have ht:=zFs (R:=R) (cl:=cl) (it:=it) hd (.inl h3) (s0 hz);rw[if_neg h1,if_neg h2] at ht;exact go (u':=[]) hd ht fun cl it=>ih (k+1) n _ cl it (dr hd).2 (sc hn) (sz hz)
theorem zJL {p:List Nat}{P:List (Option Pc)}(h:Mn6 p P)(hp:p.length≤1000):Ret zCM (fr [vl (.str p),none,none,none,none] []) (.lst ((P.map (Option.map Prod.snd)).map vI6)):=by
 obtain⟨k',cl',it',hl⟩:=zM9 h hp 0 100000 [] none none rfl (zznlu hp (by decide)) (by rw[List.length_nil,Nat.zero_add];exact zznlu hp (by decide));rw[List.nil_append] at hl;unfold zCM;exact q_seq (zGb (es:=[.own [],.val (.int ((0:Nat):Int))]) (zAE (x_bO (zCo x_kA0 ⟨Nat.zero_le _⟩)) (zAE (x_bV x_k0) x_kL0)) ⟨rfl⟩ ⟨rfl⟩ ⟨zznbl rfl⟩ ⟨rfl⟩) (q_seq hl (zBv (q_frz ⟨rfl⟩ ⟨rfl⟩ (q_ret (x_nmE ⟨rfl⟩)))))
noncomputable def zCL:List V→Option V:=ctr (fun xs=>∃ p P,Mn6 p P∧p.length≤1000∧xs=[.str p]) zCM 4
theorem zM8 {p:List Nat}{P:List (Option Pc)}(h:Mn6 p P)(hp:p.length≤1000):zCL [.str p]=some (.lst ((P.map (Option.map Prod.snd)).map vI6)):=zCR ⟨p,P,h,hp,rfl⟩ (zJL h hp)
noncomputable def zEo:List (Str×Nat):=[("steps",0),("name",1),("ways",2),("step",3)]
noncomputable def zAo:SF:=(seqS (ifS (t2 (nmC 3) (kS [104,111,108,100]) eqV) (seqS (asg (valN (compF [6] (r1V (bnd (nmC 2) lenV)) (tgN 6) (kT true) (tupE (aCons (nmE 6) (aCons (b2 (b2 (nmC 2) (nmC 6) idxV) (kI 1) idxV) kA0))))) 2)
 nilS) (seqS (ifS (t2 (nmC 3) (kS [102,114,101,101]) eqV) (seqS (asg (valN (compF [7] (r1V (bnd (nmC 2) lenV)) (tgN 7) (tOr (t2 (nmC 7) (kI 0) eqV) (tOr (t2 (b2 (b2 (nmC 2) (nmC 7) idxV) (kI 0) idxV) (b2 (b2 (nmC 2) (b2 (nmC 7) (kI 1) subV) idxV) (kI 0) idxV) neV) (kT false))) (b2 (nmC 2) (nmC 7) idxV))) 2)
 nilS) (seqS (ifS (t2 (nmC 3) (kS [108,101,97,115,116]) eqV) (seqS (asg (valN (compE [8,9,10] (seqI (nmE 2)) (tgT [8,9]) (kT true) (compE [10] (r2V (nmC 9) (b2 (bnd (nmC 1) lenV) (kI 1) addV)) (tgN 10) (kT true) (oneF (tupE (aCons (nmE 8) (aCons (nmE 10) kA0))))))) 2)
 nilS) (seqS (ifS (t2 (nmC 3) (kS [109,111,115,116]) eqV) (seqS (asg (valN (compE [11,12,13] (seqI (nmE 2)) (tgT [11,12]) (kT true) (compE [13] (r3V (bnd (nmC 1) lenV) (b2 (nmC 12) (kI 1) subV) (negE (kI 1))) (tgN 13) (kT true) (oneF (tupE (aCons (nmE 11) (aCons (nmE 13) kA0))))))) 2)
 nilS) (seqS (asg (valN (compF [14,15] (seqI (nmE 2)) (tgT [14,15]) (tAnd (t2 (nmC 15) (bnd (nmC 1) lenV) ltV) (tAnd (tT (bndL (aCons (nmE 3) (aCons (b2 (nmC 1) (nmC 15) idxV) kA0)) zA0)) (kT true))) (tupE (aCons (nmE 14) (aCons (b2 (nmC 15) (kI 1) addV) kA0))))) 2)
 nilS))
 nilS))
 nilS))
 nilS))
 nilS)
noncomputable def zDP:SF:=(seqS (asg (lstE (aCons (tupE (aCons (kI 0) (aCons (kI 0) kA0))) kA0)) 2)
 (seqS (forS (seqI (nmE 0)) (tgN 3) zAo)
 (seqS (retS (valN (compF [4,5] (seqI (nmE 2)) (tgT [4,5]) (kT true) (nmE 5))))
 nilS)))
theorem zFA {α:Type}{q:α→V}{F:α→List V}{f:V→Option (List V)}:∀ {as:List α},(∀ a∈as,f (q a)=some (F a))→flatE f (as.map q)=some (as.map F).flatten
 | [],_=>rfl
 | a::as,h=>by
  rw[List.map_cons];unfold flatE;rw[h a List.mem_cons_self,zFA fun b hb=>h b (List.mem_cons_of_mem _ hb)];rfl
section
variable {l:List (Option El)} {tl:List Slot}
theorem undf6 {i:Nat}(h:l[i]? = some none):((fr l tl)[i]?.any Slot.isUndef)=true:=by rw[fr_at h];rfl
theorem zHn {α:Type}{as:List α}{q h:α→V}{i:Nat}{fi:List Slot→Option (List V)}{fe:EF}(hi:Rf (l[i]? = some none))(hx:fi (fr l tl)=some (as.map q))(hg:∀ a∈as,fe (fr (l.set i (vl (q a))) tl)=some (h a))(hz:Sd (as.length≤1000000)):
  compE [i] fi (tgN i) (kT true) (oneF fe) (fr l tl)=some (as.map h):=by
 have hi1:=(List.getElem?_eq_some_iff.mp hi.out).1
 have e:(as.map fun a=>[h a]).flatten=as.map h:=by
  clear hx hg hz
  induction as with
  | nil=>rfl
  | cons a as ih=>rw[List.map_cons,List.flatten_cons,ih];rfl
 unfold compE;rw[if_pos (by rw[List.all_cons,undf6 hi.out];rfl),hx];show (flatE _ (as.map q)).bind _=_;rw[zFA (F:=fun a=>[h a]) fun a ha=>?_,e]
 ·exact if_pos (by rw[List.length_map];exact zznlt hz.out (by decide))
 ·unfold itemG;rw[zEQ hi1];show oneF fe (fr (l.set i (vl (q a))) tl)=some [h a];unfold oneF;rw[hg a ha];rfl
theorem zHm {α:Type}{as:List α}{q1 q2:α→V}{F:α→List V}{i k m:Nat}{fi:List Slot→Option (List V)}{G:List Slot→Option (List V)}(hi:Rf (l[i]? = some none))(hk:Rf (l[k]? = some none))(hm:Rf (l[m]? = some none))(hx:fi (fr l tl)=some (as.map fun a=>.tup [q1 a,q2 a]))
  (hg:∀ a∈as,G (fr ((l.set i (vl (q1 a))).set k (vl (q2 a))) tl)=some (F a)) (hz:Sd ((as.map F).flatten.length≤1000000)):compE [i,k,m] fi (tgT [i,k]) (kT true) G (fr l tl)=some (as.map F).flatten:=by
 have hi1:=(List.getElem?_eq_some_iff.mp hi.out).1;have hk1:=(List.getElem?_eq_some_iff.mp hk.out).1;unfold compE;rw[if_pos (by rw[List.all_cons,List.all_cons,List.all_cons,undf6 hi.out,undf6 hk.out,undf6 hm.out];rfl),hx];show (flatE _ (as.map fun a=>V.tup [q1 a,q2 a])).bind _=_;rw[zFA (F:=F) fun a ha=>?_]
 ·exact if_pos (zznlt hz.out (by decide))
 ·unfold itemG;rw[tg_T2 hi1 hk1];exact hg a ha
end
theorem zJl {n p:Nat}(hn:n≤100000)(hp:p≤n):zBd (.int (n:Int)) (.int ((p:Int)-1)) (.int (-1))=some ((List.range' p (n+1-p)).reverse.map fun (i:Nat)=>V.int i):=by
 refine Eq.trans (if_pos ⟨by decide,by decide,by decide,by lia,by lia,by lia,by lia⟩) (congrArg some ?_);unfold zBO;have:zBk (n:Int) ((p:Int)-1) (-1)=n+1-p:=by
  unfold zBk Builtin.Range.rangeSize;simp;split<;>lia
 rw[this,List.reverse_range',List.map_map];apply List.map_congr_left;intro i hi;have:=List.mem_range.mp hi;show V.int _=V.int _;congr 1;lia
noncomputable def way (e:Nat):V:=.tup [.int ((0:Nat):Int),.int (e:Nat)]
noncomputable abbrev wyF (sv:List V)(nm:List Nat)(es:List Nat)(st:Option El):List Slot:=fr [vl (.lst sv),vl (.str nm),vl (.lst (es.map way)),st,none,none,none,none,none,none,none,none,none,none,none,none] []
noncomputable def upN (nm:List Nat)(e:Nat):List Nat:=List.range' e (nm.length+1-e)
section
variable {sv:List V} {nm es:List Nat} {s:St}
theorem wy_t (l:List Nat):t2 (nmC 3) (kS l) eqV (wyF sv nm es (vl s.v))=some (s.isW l):=x_t2 (x_nmC ⟨rfl⟩) x_kS st_eq
theorem zHG (h:es.length≤1):es=[]∨∃ e,es=[e]:=by
 match es,h with
 | [],_=>exact .inl rfl
 | [e],_=>exact .inr ⟨e,rfl⟩
theorem zMc (h:es.length≤1):zAo (wyF sv nm es (vl (St.w wHold).v))=some (.next,wyF sv nm es (vl (St.w wHold).v)):=by
 unfold zAo;have hc:compF [6] (r1V (bnd (nmC 2) lenV)) (tgN 6) (kT true) (tupE (aCons (nmE 6) (aCons (b2 (b2 (nmC 2) (nmC 6) idxV) (kI 1) idxV) kA0))) (wyF sv nm es (vl (St.w wHold).v))=some (es.map way):=by
  rcases zHG h with rfl | ⟨e,rfl⟩
  ·exact zDW (as:=([]:List Nat)) (q:=fun (i:Nat)=>V.int i) (h:=way) ⟨rfl⟩ (x_r1 (x_bnd (x_nmC ⟨rfl⟩) zD8) (zEM ⟨Nat.zero_le _⟩)) ⟨Nat.zero_le _⟩ fun a ha=>by cases ha
  ·exact zDW (as:=[0]) (q:=fun (i:Nat)=>V.int i) (h:=fun _x=>way e) ⟨rfl⟩ (x_r1 (x_bnd (x_nmC ⟨rfl⟩) zD8) (zEM ⟨zznbl rfl⟩)) ⟨zznbl rfl⟩ fun a ha=>by
    rw[List.mem_singleton.mp ha];exact x_tup (zAb (x_nmE ⟨rfl⟩) (zAb (x_b2 (x_b2 (x_nmC ⟨rfl⟩) (x_nmC ⟨rfl⟩) (zA5 ⟨rfl⟩)) x_k1 (zCC ⟨rfl⟩)) x_kA0)) ⟨zznbl rfl⟩
 exact s_seq (zAs (wy_t _) rfl (s_seq (s_asg (zBK hc) ⟨rfl⟩ ⟨rfl⟩) (s_nil ⟨rfl⟩))) (s_nil ⟨rfl⟩)
theorem zMd (h:es.length≤1000):zAo (wyF sv nm es (vl (St.w wFree).v))=some (.next,wyF sv nm (es.take 1) (vl (St.w wFree).v)):=by
 unfold zAo;have at1:∀ {i:Nat},i<es.length→(es.map way)[i]? = some (way (es[i]?.getD 0)):=fun {i} hi=>by rw[List.getElem?_map,List.getElem?_eq_getElem hi];rfl
 have hc:compF [7] (r1V (bnd (nmC 2) lenV)) (tgN 7) (tOr (t2 (nmC 7) (kI 0) eqV) (tOr (t2 (b2 (b2 (nmC 2) (nmC 7) idxV) (kI 0) idxV) (b2 (b2 (nmC 2) (b2 (nmC 7) (kI 1) subV) idxV) (kI 0) idxV) neV) (kT false))) (b2 (nmC 2) (nmC 7) idxV) (wyF sv nm es (vl (St.w wFree).v))=some ((es.take 1).map way):=by
  have e:((List.range' 0 es.length).filter fun i=>decide (i=0)).map (fun i=>way (es[i]?.getD 0))=(es.take 1).map way:=by
   cases es with
   | nil=>rfl
   | cons a t=>
    rw[List.length_cons,List.range'_succ,List.filter_cons,if_pos (decide_eq_true rfl)];have:(List.range' (0+1) t.length).filter (fun i=>decide (i=0))=[]:=List.filter_eq_nil_iff.mpr fun i hi=>by
     have:=(List.mem_range'_1.mp hi).1;rw[decide_eq_false (Nat.ne_of_gt this)];exact zzbft
    rw[this];rfl
  rw[←e];refine zDV (q:=fun (i:Nat)=>V.int i) (h:=fun i=>way (es[i]?.getD 0)) ⟨rfl⟩ (x_r1 (x:=.int ((es.length:Nat):Int)) (Eq.trans (x_bnd (x_nmC ⟨rfl⟩) zD8) (by rw[List.length_map])) (zEM ⟨by exact zznlt h (zznal _ _)⟩)) ⟨by rw[List.length_range'];exact zznlt h (zznal _ _)⟩ (fun i hi=>?_) fun i hi _x=>?_
  ·have hi:i<es.length:=by simpa using (List.mem_range'_1.mp hi).2
   by_cases h0:i=0
   ·rw[decide_eq_true h0];exact x_orT (x_t (x_t2 (x_nmC ⟨rfl⟩) x_k0 o_eqN) (zzdet h0))
   ·rw[decide_eq_false h0];exact x_orF (x_t (x_t2 (x_nmC ⟨rfl⟩) x_k0 o_eqN) (zzdef h0)) (x_t (x_or (x_t2 (x_b2 (x_b2 (x_nmC ⟨rfl⟩) (x_nmC ⟨rfl⟩) (zA5 ⟨at1 hi⟩)) x_k0 (zCC ⟨rfl⟩)) (x_b2 (x_b2 (x_nmC ⟨rfl⟩) (x_b2 (x_nmC ⟨rfl⟩) x_k1 (zJu ⟨Nat.pos_of_ne_zero h0⟩)) (zA5 ⟨at1 (zn322 hi)⟩)) x_k0 (zCC ⟨rfl⟩)) (o_ne o_eqN)) x_kT) rfl)
  ·have hi:i<es.length:=by simpa using (List.mem_range'_1.mp hi).2
   exact x_b2 (x_nmC ⟨rfl⟩) (x_nmC ⟨rfl⟩) (zA5 ⟨at1 hi⟩)
 exact s_seq (zAi (wy_t _) rfl (s_seq (zAs (wy_t _) rfl (s_seq (s_asg (zBK hc) ⟨rfl⟩ ⟨rfl⟩) (s_nil ⟨rfl⟩))) (s_nil ⟨rfl⟩))) (s_nil ⟨rfl⟩)
theorem zKw (h:es.length≤1)(hn:nm.length≤1000)(he:∀ e∈es,e≤nm.length):zAo (wyF sv nm es (vl (St.w zDo).v))=some (.next,wyF sv nm (es.flatMap (upN nm)) (vl (St.w zDo).v)):=by
 unfold zAo;have hc:compE [8,9,10] (seqI (nmE 2)) (tgT [8,9]) (kT true) (compE [10] (r2V (nmC 9) (b2 (bnd (nmC 1) lenV) (kI 1) addV)) (tgN 10) (kT true) (oneF (tupE (aCons (nmE 8) (aCons (nmE 10) kA0))))) (wyF sv nm es (vl (St.w zDo).v))=some ((es.flatMap (upN nm)).map way):=by
  have e:(es.flatMap (upN nm)).map way=(es.map fun e=>(upN nm e).map way).flatten:=by rw[List.flatMap_def,List.map_flatten,List.map_map];rfl
  rw[e];refine zHm (q1:=fun _x=>V.int ((0:Nat):Int)) (q2:=fun (e:Nat)=>V.int e) ⟨rfl⟩ ⟨rfl⟩ ⟨rfl⟩ (zBL (x_nmE ⟨rfl⟩) o_itL) (fun e hm=>zHn (q:=fun (i:Nat)=>V.int i) ⟨rfl⟩ (x_r2 (x_nmC ⟨rfl⟩) (x_b2 (x_bnd (x_nmC ⟨rfl⟩) zBe) x_k1 zAm) (o_rng ⟨by have:=he e hm;exact zn323 hn this⟩ ⟨by exact zznlu hn (zznbl rfl)⟩)) (fun i _x=>x_tup (zAb (x_nmE ⟨rfl⟩) (zAb (x_nmE ⟨rfl⟩) x_kA0)) ⟨zznbl rfl⟩) ⟨by unfold upN;rw[List.length_range'];exact zn12 hn⟩) ⟨?_⟩;rcases zHG h with rfl | ⟨e,rfl⟩
  ·exact Nat.zero_le _
  ·rw[List.map_singleton,List.flatten_cons,List.flatten_nil,List.append_nil,List.length_map];show (List.range' _ _).length≤_;rw[List.length_range'];exact zn12 hn
 exact s_seq (zAi (wy_t _) rfl (s_seq (zAi (wy_t _) rfl (s_seq (zAs (wy_t _) rfl (s_seq (s_asg (zBK hc) ⟨rfl⟩ ⟨rfl⟩) (s_nil ⟨rfl⟩))) (s_nil ⟨rfl⟩))) (s_nil ⟨rfl⟩))) (s_nil ⟨rfl⟩)
theorem zMa (h:es.length≤1)(hn:nm.length≤1000)(he:∀ e∈es,e≤nm.length):zAo (wyF sv nm es (vl (St.w wMost).v))=some (.next,wyF sv nm (es.flatMap fun e=>(upN nm e).reverse) (vl (St.w wMost).v)):=by
 unfold zAo;have hc:compE [11,12,13] (seqI (nmE 2)) (tgT [11,12]) (kT true) (compE [13] (r3V (bnd (nmC 1) lenV) (b2 (nmC 12) (kI 1) subV) (negE (kI 1))) (tgN 13) (kT true) (oneF (tupE (aCons (nmE 11) (aCons (nmE 13) kA0))))) (wyF sv nm es (vl (St.w wMost).v))=some ((es.flatMap fun e=>(upN nm e).reverse).map way):=by
  have e:(es.flatMap fun e=>(upN nm e).reverse).map way=(es.map fun e=>(upN nm e).reverse.map way).flatten:=by rw[List.flatMap_def,List.map_flatten,List.map_map];rfl
  rw[e];refine zHm (q1:=fun _x=>V.int ((0:Nat):Int)) (q2:=fun (e:Nat)=>V.int e) ⟨rfl⟩ ⟨rfl⟩ ⟨rfl⟩ (zBL (x_nmE ⟨rfl⟩) o_itL) (fun e hm=>zHn (q:=fun (i:Nat)=>V.int i) ⟨rfl⟩ (x_r3 (x_bnd (x_nmC ⟨rfl⟩) zBe) (x_b2 (x_nmC ⟨rfl⟩) (x_kI (n:=1)) zOb) x_m1 (zJl (zznlt hn (zznal _ _)) (he e hm))) (fun i _x=>x_tup (zAb (x_nmE ⟨rfl⟩) (zAb (x_nmE ⟨rfl⟩) x_kA0)) ⟨zznbl rfl⟩) ⟨by unfold upN;rw[List.length_reverse,List.length_range'];exact zn12 hn⟩) ⟨?_⟩;rcases zHG h with rfl | ⟨e,rfl⟩
  ·exact Nat.zero_le _
  ·rw[List.map_singleton,List.flatten_cons,List.flatten_nil,List.append_nil,List.length_map,List.length_reverse];show (List.range' _ _).length≤_;rw[List.length_range'];exact zn12 hn
 exact s_seq (zAi (wy_t _) rfl (s_seq (zAi (wy_t _) rfl (s_seq (zAi (wy_t _) rfl (s_seq (zAs (wy_t _) rfl (s_seq (s_asg (zBK hc) ⟨rfl⟩ ⟨rfl⟩) (s_nil ⟨rfl⟩))) (s_nil ⟨rfl⟩))) (s_nil ⟨rfl⟩))) (s_nil ⟨rfl⟩))) (s_nil ⟨rfl⟩)
noncomputable def tk6 (q:Bool×List (Nat×Nat)):Nat→Bool:=fun c=>q.1 != inP q.2 c
theorem zNH {ng:Bool}{ps:List (Nat×Nat)}(hl:ps.length≤100000)(h:es.length≤1000):zAo (wyF sv nm es (vl (St.one ng ps).v))=some (.next,wyF sv nm ((es.filter (fit (tk6 (ng,ps)) nm)).map (·+1)) (vl (St.one ng ps).v)):=by
 unfold zAo;have hc:compF [14,15] (seqI (nmE 2)) (tgT [14,15]) (tAnd (t2 (nmC 15) (bnd (nmC 1) lenV) ltV) (tAnd (tT (bndL (aCons (nmE 3) (aCons (b2 (nmC 1) (nmC 15) idxV) kA0)) zA0)) (kT true))) (tupE (aCons (nmE 14) (aCons (b2 (nmC 15) (kI 1) addV) kA0))) (wyF sv nm es (vl (St.one ng ps).v))=some (((es.filter (fit (tk6 (ng,ps)) nm)).map (·+1)).map way):=by
  rw[List.map_map];refine zGD (q1:=fun _x=>V.int ((0:Nat):Int)) (q2:=fun (e:Nat)=>V.int e) (h:=way∘(·+1)) ⟨rfl⟩ ⟨rfl⟩ (zBL (x_nmE ⟨rfl⟩) o_itL) ⟨by exact zznlt h (zznal _ _)⟩ (fun e _x=>?_) fun e _x _x=>x_tup (zAb (x_nmE ⟨rfl⟩) (zAb (x_b2 (x_nmC ⟨rfl⟩) x_k1 zAm) x_kA0)) ⟨zznbl rfl⟩;unfold fit;cases hc:nm[e]? with
  | none=>exact zHo (x_t (x_t2 (x_nmC ⟨rfl⟩) (x_bnd (x_nmC ⟨rfl⟩) zBe) o_ltN) (zzdef (Nat.not_lt.mpr (List.getElem?_eq_none_iff.mp hc))))
  | some c=>exact zNG (x_t (x_t2 (x_nmC ⟨rfl⟩) (x_bnd (x_nmC ⟨rfl⟩) zBe) o_ltN) (zzdet (List.getElem?_eq_some_iff.mp hc).1)) (x_t (x_and (x_tT (zA4 (zAb (x_nmE ⟨rfl⟩) (zAb (x_b2 (x_nmC ⟨rfl⟩) (x_nmC ⟨rfl⟩) (zAZ ⟨hc⟩)) x_kA0)) (zIU hl)) zCB) x_kT) (Bool.and_true _))
 exact s_seq (zAi (wy_t _) rfl (s_seq (zAi (wy_t _) rfl (s_seq (zAi (wy_t _) rfl (s_seq (zAi (wy_t _) rfl (s_seq (s_asg (zBK hc) ⟨rfl⟩ ⟨rfl⟩) (s_nil ⟨rfl⟩))) (s_nil ⟨rfl⟩))) (s_nil ⟨rfl⟩))) (s_nil ⟨rfl⟩))) (s_nil ⟨rfl⟩)
end
inductive Wy (nm:List Nat):List Nat→List St→List Nat→Prop
 | nil {es:List Nat}:es.length≤1010→Wy nm es [] es
 | hold {es fs:List Nat} {ss:List St}:es.length≤1→Wy nm es ss fs→Wy nm es (.w wHold::ss) fs
 | free {es fs:List Nat} {ss:List St}:es.length≤1000→Wy nm (es.take 1) ss fs→Wy nm es (.w wFree::ss) fs
 | least {es fs:List Nat} {ss:List St}:es.length≤1→(∀ e∈es,e≤nm.length)→Wy nm (es.flatMap (upN nm)) ss fs→Wy nm es (.w zDo::ss) fs
 | most {es fs:List Nat} {ss:List St}:es.length≤1→(∀ e∈es,e≤nm.length)→Wy nm (es.flatMap fun e=>(upN nm e).reverse) ss fs→Wy nm es (.w wMost::ss) fs
 | one {es fs:List Nat} {ss:List St} {q:Bool×List (Nat×Nat)}:q.2.length≤100000→es.length≤1000→Wy nm ((es.filter (fit (tk6 q) nm)).map (·+1)) ss fs→Wy nm es (oneS q::ss) fs
theorem zMb {nm es fs:List Nat}{ss:List St}(h:Wy nm es ss fs)(hn:nm.length≤1000){sv:List V}:∀ st:Option El,∃ st',forL (tgN 3) zAo (ss.map St.v) (wyF sv nm es st)=some (.next,wyF sv nm fs st')∧fs.length≤1010:=by
 have go:∀ {es es1 fs:List Nat} {s:St} {ss:List St} {st:Option El},zAo (wyF sv nm es (vl s.v))=some (.next,wyF sv nm es1 (vl s.v))→(∀ st:Option El,∃ st',forL (tgN 3) zAo (ss.map St.v) (wyF sv nm es1 st)=some (.next,wyF sv nm fs st')∧fs.length≤1010)→
   ∃ st',forL (tgN 3) zAo ((s::ss).map St.v) (wyF sv nm es st)=some (.next,wyF sv nm fs st')∧fs.length≤1010:=fun h1 ih=>by
  obtain⟨st',h2,h3⟩:=ih (vl _);exact⟨st',(zDd (zEQ (by simp)) h1).trans h2,h3⟩
 induction h with
 | nil h=>exact fun st=>⟨st,rfl,h⟩
 | hold h _ ih=>exact fun st=>go (zMc h) ih
 | free h _ ih=>exact fun st=>go (zMd h) ih
 | least h he _ ih=>exact fun st=>go (zKw h hn he) ih
 | most h he _ ih=>exact fun st=>go (zMa h hn he) ih
 | one hq h _ ih=>exact fun st=>go (zNH hq h) ih
theorem zLY {nm fs:List Nat}{ss:List St}(h:Wy nm [0] ss fs)(hn:nm.length≤1000):Ret zDP (fr [vl (.lst (ss.map St.v)),vl (.str nm),none,none,none,none,none,none,none,none,none,none,none,none,none,none] []) (.lst (fs.map fun (e:Nat)=>V.int e)):=by
 refine ze12 (zMb h hn (sv:=ss.map St.v) none) fun st' hl hf=>?_;have hc:compF [4,5] (seqI (nmE 2)) (tgT [4,5]) (kT true) (nmE 5) (wyF (ss.map St.v) nm fs st')=some (fs.map fun (e:Nat)=>V.int e):=by
  have:=zGD (as:=fs) (q1:=fun _x=>V.int ((0:Nat):Int)) (q2:=fun (e:Nat)=>V.int e) (h:=fun (e:Nat)=>V.int e) (p:=fun _x=>true) (i:=4) (k:=5) (fi:=seqI (nmE 2)) (ts:=kT true) (fe:=nmE 5) (tl:=[]) (l:=[vl (.lst (ss.map St.v)),vl (.str nm),vl (.lst (fs.map way)),st',none,none,none,none,none,none,none,none,none,none,none,none]) ⟨rfl⟩ ⟨rfl⟩ (zBL (x_nmE ⟨rfl⟩) o_itL) ⟨by exact zznlt hf (zznal _ _)⟩ (fun _x _x=>rfl) fun a _x _x=>x_nmE ⟨rfl⟩;rw[List.filter_eq_self.mpr fun _x _x=>rfl] at this;exact this
 unfold zDP;exact q_seq (s_asg (v:=.lst ([0].map way)) (x_lst (zAb (x_tup (zAb x_k0 (zAb x_k0 x_kA0)) ⟨zznbl rfl⟩) x_kA0) ⟨zznbl rfl⟩) ⟨rfl⟩ ⟨rfl⟩) (q_seq (s_for (zBL (x_nmE ⟨rfl⟩) o_itL) hl) (zBv (q_ret (zBK hc))))
noncomputable def zDO:List V→Option V:=ctr (fun xs=>∃ nm fs ss,Wy nm [0] ss fs∧nm.length≤1000∧xs=[.lst (ss.map St.v),.str nm]) zDP 14
theorem zOt {nm fs:List Nat}{ss:List St}(h:Wy nm [0] ss fs)(hn:nm.length≤1000):zDO [.lst (ss.map St.v),.str nm]=some (.lst (fs.map fun (e:Nat)=>V.int e)):=zCR ⟨nm,fs,ss,h,hn,rfl⟩ (zLY h hn)
noncomputable abbrev Q6:=Bool×List (Nat×Nat)
noncomputable def fitsS (nm:List Nat):List Q6→Nat→Bool
 | [],_=>true
 | q::r,e=>fit (tk6 q) nm e&&fitsS nm r (e+1)
section
variable {nm:List Nat}
theorem zLS {f:Nat→Bool}{e:Nat}(h:fit f nm e=true):e<nm.length:=by
 unfold fit at h;cases q:nm[e]? with
 | none=>rw[q] at h;cases h
 | some c=>exact(List.getElem?_eq_some_iff.mp q).1
theorem zC9:∀ {seg:List Q6} {e:Nat},fitsS nm seg e=true→e≤nm.length→e+seg.length≤nm.length
 | [],_,_,h=>h
 | q::r,e,h,_=>by
  have h:=Bool.and_eq_true_iff.mp h;have:=zC9 h.2 (Nat.succ_le_of_lt (zLS h.1));rw[List.length_cons];exact zn325 this
theorem zNj {seg:List Q6}{e:Nat}(h:fitsS nm seg e=true)(h0:seg≠[]):e<nm.length:=by
 cases seg with
 | nil=>exact absurd rfl h0
 | cons q r=>exact zLS (Bool.and_eq_true_iff.mp h).1
noncomputable def runE (nm:List Nat)(seg:List Q6)(es:List Nat):List Nat:=(es.filter (fitsS nm seg)).map (·+seg.length)
theorem zFk {seg:List Q6}{es:List Nat}:(runE nm seg es).length≤es.length:=by
 unfold runE;rw[List.length_map];exact List.length_filter_le _ _
theorem zJk {q:Q6}{r:List Q6}{es:List Nat}:runE nm r ((es.filter (fit (tk6 q) nm)).map (·+1))=runE nm (q::r) es:=by
 unfold runE
 induction es with
 | nil=>rfl
 | cons e es ih=>
  rw[List.filter_cons,List.filter_cons];have hf:fitsS nm (q::r) e=(fit (tk6 q) nm e&&fitsS nm r (e+1)):=rfl;rw[hf];cases h1:fit (tk6 q) nm e with
  | false=>exact ih
  | true=>
   rw[if_pos rfl,List.map_cons,List.filter_cons,Bool.true_and];cases h2:fitsS nm r (e+1) with
   | false=>exact ih
   | true=>
    rw[if_pos rfl,if_pos rfl,List.map_cons,List.map_cons,ih,List.length_cons];congr 1;exact Nat.succ_add _ _
theorem zHp {ss:List St}{fs:List Nat}:∀ {seg:List Q6} {es:List Nat},(∀ q∈seg,q.2.length≤100000)→es.length≤1000→Wy nm (runE nm seg es) ss fs→Wy nm es (seg.map oneS++ss) fs
 | [],es,_,_,h=>by
  have e:runE nm [] es=es:=by
   have e1:es.filter (fitsS nm [])=es:=List.filter_eq_self.mpr fun _x _x=>rfl;unfold runE;rw[e1];exact List.map_id es
  rw[e] at h;exact h
 | q::r,es,hq,hl,h=>by
  refine .one (hq q zzlms) hl (zHp (fun p hp=>hq p (zzlmc _ hp)) ?_ (by rw[zJk];exact h));rw[List.length_map];exact zznlt (List.length_filter_le _ _) hl
noncomputable def finE (nm:List Nat):List (List Q6)→List Nat→List Nat
 | [],es=>es
 | [seg],es=>runE nm seg (es.flatMap fun e=>(upN nm e).reverse)
 | seg::y::segs,es=>finE nm (y::segs) ((runE nm seg (es.flatMap (upN nm))).take 1)
theorem zHH {es:List Nat}{f:Nat→List Nat}{n:Nat}(h:es.length≤1)(hf:∀ e,(f e).length≤n):(es.flatMap f).length≤n:=by
 rcases zHG h with rfl | ⟨e,rfl⟩
 ·exact Nat.zero_le _
 ·rw[List.flatMap_cons,List.flatMap_nil,List.append_nil];exact hf e
theorem zIP {e:Nat}:(upN nm e).length≤nm.length+1:=by unfold upN;rw[List.length_range'];exact Nat.sub_le _ _
theorem zJj {seg:List Q6}{es:List Nat}(he:∀ e∈es,e≤nm.length):∀ e∈runE nm seg es,e≤nm.length:=fun x hx=>by
 refine ze12 (List.mem_map.mp hx) fun e h1 z5=>?_;subst z5;have h2:=List.mem_filter.mp h1;exact zC9 h2.2 (he e h2.1)
theorem zNK {es:List Nat}:∀ e∈es.flatMap (upN nm),e≤nm.length:=fun x hx=>by
 refine ze12 (List.mem_flatMap.mp hx) fun e _ h=>?_;have:=List.mem_range'_1.mp h;exact zn31 this
theorem zIK (hn:nm.length≤900):∀ {segs:List (List Q6)} {es:List Nat},(∀ s∈segs,∀ q∈s,q.2.length≤100000)→es.length≤1→(∀ e∈es,e≤nm.length)→Wy nm es (restS segs) (finE nm segs es)
 | [],es,_,h,_=>.nil (zznlt h (by decide))
 | [seg],es,hq,h,he=>by
  have hl:(es.flatMap fun e=>(upN nm e).reverse).length≤1000:=zznlt (zHH h fun e=>by rw[List.length_reverse];exact zIP) (zznlu hn (zznbl rfl));have:=zHp (nm:=nm) (ss:=[]) (hq seg zzlms) hl (.nil (zznlt zFk (zznlt hl (by decide))));rw[List.append_nil] at this;exact .most h he this
 | seg::y::segs,es,hq,h,he=>by
  have hl:(es.flatMap (upN nm)).length≤1000:=zznlt (zHH h fun e=>zIP) (zznlu hn (zznbl rfl));refine .hold h (.least h he (zHp (hq seg zzlms) hl (.free (zznlt zFk hl) (zIK hn (fun s hs=>hq s (zzlmc _ hs)) (by rw[List.length_take];exact Nat.min_le_left _ _) fun e hm=>?_))));exact zJj zNK e (List.mem_of_mem_take hm)
theorem zNI (hn:nm.length≤900){seg:List Q6}{segs:List (List Q6)}(h1:∀ q∈seg,q.2.length≤100000)(h2:∀ s∈segs,∀ q∈s,q.2.length≤100000):Wy nm [0] (seg.map oneS++restS segs) (finE nm segs (runE nm seg [0])):=
 zHp h1 (by decide) (zIK hn h2 (zznlt zFk (zznlr 1)) (zJj fun e he=>by rw[List.mem_singleton.mp he];exact Nat.zero_le _))
noncomputable def stP (P:Nat→Bool):Nat→Bool:=fun k=>(List.range' 0 (k+1)).any P
noncomputable def onP (nm:List Nat)(P:Nat→Bool)(q:Q6):Nat→Bool
 | 0=>false
 | k+1=>P k&&fit (tk6 q) nm k
noncomputable def stepP (nm:List Nat)(P:Nat→Bool):Option Q6→Nat→Bool
 | none=>stP P
 | some q=>onP nm P q
noncomputable def segP (nm:List Nat)(seg:List Q6)(P:Nat→Bool):Nat→Bool:=seg.foldl (onP nm) P
noncomputable def restP (nm:List Nat):List (List Q6)→(Nat→Bool)→Nat→Bool
 | [],P=>P
 | seg::segs,P=>restP nm segs (segP nm seg (stP P))
theorem zCZ {P:Nat→Bool}{k:Nat}:stP P k=true↔∃ j,j≤k∧P j=true:=by
 unfold stP;rw[List.any_eq_true];constructor
 ·rintro ⟨j,h1,h2⟩
  exact⟨j,by have:=List.mem_range'_1.mp h1;exact zn70 this,h2⟩
 ·rintro ⟨j,h1,h2⟩
  exact⟨j,List.mem_range'_1.mpr ⟨Nat.zero_le _,by exact zn71 h1⟩,h2⟩
theorem zI9 {P:Nat→Bool}:stP (stP P)=stP P:=by
 funext k;rw[Bool.eq_iff_iff,zCZ,zCZ];constructor
 ·rintro ⟨j,h1,h2⟩
  refine ze12 (zCZ.mp h2) fun i h3 h4=>?_;exact⟨i,Nat.le_trans h3 h1,h4⟩
 ·rintro ⟨j,h1,h2⟩
  exact⟨j,h1,zCZ.mpr ⟨j,Nat.le_refl _,h2⟩⟩
theorem zBX:∀ (L:List (Option Q6)) (st:Bool) (P:Nat→Bool),(st=true→stP P=P)→L.foldl (stepP nm) P=restP nm (zAc st L).2 (segP nm (zAc st L).1 P)
 | [],_,_,_=>rfl
 | some q::L,st,P,_=>zBX L false (onP nm P q) fun h=>by cases h
 | none::L,true,P,h=>by
  show L.foldl (stepP nm) (stP P)=_;rw[h rfl];exact zBX L true P h
 | none::L,false,P,_=>zBX L true (stP P) fun _x=>zI9
theorem zBB:∀ {seg:List Q6} {P:Nat→Bool} {k:Nat},segP nm seg P k=true↔∃ e,P e=true∧fitsS nm seg e=true∧k=e+seg.length
 | [],P,k=>⟨fun h=>⟨k,h,rfl,rfl⟩,fun ⟨e,h,_,he⟩=>by rw[he];exact h⟩
 | q::r,P,k=>by
  have ih:=zBB (seg:=r) (P:=onP nm P q) (k:=k);refine ih.trans ⟨?_,?_⟩
  ·rintro ⟨e,h1,h2,h3⟩
   cases e with
   | zero=>cases h1
   | succ e=>
    have h1:=Bool.and_eq_true_iff.mp h1;exact⟨e,h1.1,Bool.and_eq_true_iff.mpr ⟨h1.2,h2⟩,by rw[h3,List.length_cons];exact Nat.succ_add _ _⟩
  ·rintro ⟨e,h1,h2,h3⟩
   have h2:=Bool.and_eq_true_iff.mp h2;exact⟨e+1,Bool.and_eq_true_iff.mpr ⟨h1,h2.1⟩,h2.2,by rw[h3,List.length_cons];exact(Nat.succ_add _ _).symm⟩
noncomputable def Low (nm:List Nat)(es:List Nat)(P:Nat→Bool):Prop:=(es=[]∧∀ k,P k=false)∨∃ e,es=[e]∧e≤nm.length∧P e=true∧∀ k,P k=true→e≤k
theorem zEN {e:Nat}{P:Nat→Bool}(h:P e=true)(hm:∀ k,P k=true→e≤k){k:Nat}:stP P k=true↔e≤k:=by
 rw[zCZ];exact⟨fun ⟨j,h1,h2⟩=>zznlt (hm j h2) h1,fun h1=>⟨e,h1,h⟩⟩
theorem zMw {P:Nat→Bool}(h:∀ k,P k=false):∀ k,stP P k=false:=fun k=>by
 rw[←Bool.not_eq_true,zCZ]
 rintro ⟨j,_,h2⟩
 rw[h j] at h2;cases h2
theorem zKL {seg:List Q6}{P:Nat→Bool}(h:∀ k,P k=false):∀ k,segP nm seg P k=false:=fun k=>by
 rw[←Bool.not_eq_true,zBB]
 rintro ⟨j,h2,_⟩
 rw[h j] at h2;cases h2
theorem zD5:∀ {segs:List (List Q6)} {P:Nat→Bool},(∀ k,P k=false)→∀ k,restP nm segs P k=false
 | [],_,h=>h
 | _::segs,_,h=>zD5 (segs:=segs) (zKL (zMw h))
theorem zG1:∀ {segs:List (List Q6)},finE nm segs []=[]
 | []=>rfl
 | [_]=>rfl
 | _::y::segs=>zG1 (segs:=y::segs)
theorem zHX {e:Nat}{f:Nat→List Nat}:[e].flatMap f=f e:=by rw[List.flatMap_cons,List.flatMap_nil,List.append_nil]
theorem zK0 {seg:List Q6}{e:Nat}{P:Nat→Bool}(he:e≤nm.length)(h:P e=true)(hm:∀ k,P k=true→e≤k):Low nm ((runE nm seg ([e].flatMap (upN nm))).take 1) (segP nm seg (stP P)):=by
 rw[zHX];have hs:((upN nm e).filter (fitsS nm seg)).Pairwise (· < ·):=List.Pairwise.filter _ (List.pairwise_lt_range' ..)
 have hin:∀ x,x∈(upN nm e).filter (fitsS nm seg)↔(e≤x∧x≤nm.length)∧fitsS nm seg x=true:=fun x=>by
  rw[List.mem_filter];unfold upN;rw[List.mem_range'_1];constructor
  ·rintro ⟨h1,h2⟩;exact⟨⟨h1.1,by exact zn31 h1⟩,h2⟩
  ·rintro ⟨h1,h2⟩;exact⟨⟨h1.1,by exact zn326 h1⟩,h2⟩
 unfold runE;cases hl:(upN nm e).filter (fitsS nm seg) with
 | nil=>
  refine .inl ⟨rfl,fun k=>?_⟩;rw[←Bool.not_eq_true,zBB]
  rintro ⟨x,h1,h2,_⟩
  have hx:=(zEN h hm).mp h1
  have hxn:x≤nm.length:=by
   by_cases h0:seg=[]
   ·subst h0;exfalso;have:=(hin e).mpr ⟨⟨zznlr _,he⟩,rfl⟩;rw[hl] at this;cases this
   ·exact Nat.le_of_lt (zNj h2 h0)
  have:=(hin x).mpr ⟨⟨hx,hxn⟩,h2⟩;rw[hl] at this;cases this
 | cons a t=>
  rw[hl] at hs hin;have ha:=(hin a).mp zzlms;refine .inr ⟨a+seg.length,rfl,zC9 ha.2 ha.1.2,zBB.mpr ⟨a,(zEN h hm).mpr ha.1.1,ha.2,rfl⟩,fun k hk=>?_⟩;refine ze13 (zBB.mp hk) fun x h1 h2 h3=>?_;have hx:=(zEN h hm).mp h1;rw[h3];by_cases hxn:x≤nm.length
  ·rcases List.mem_cons.mp ((hin x).mpr ⟨⟨hx,hxn⟩,h2⟩) with q | q
   ·rw[q];exact zznlr _
   ·exact Nat.add_le_add_right (Nat.le_of_lt (List.rel_of_pairwise_cons hs q)) _
  ·exact Nat.add_le_add_right (zznlt ha.1.2 (Nat.le_of_not_le hxn)) _
theorem zEL:∀ {l m:List Nat},l.Pairwise (· < ·)→m.Pairwise (· < ·)→(∀ x,x∈l↔x∈m)→l=m
 | [],[],_,_,_=>rfl
 | [],b::m,_,_,h=>absurd ((h b).mpr zzlms) List.not_mem_nil
 | a::l,[],_,_,h=>absurd ((h a).mp zzlms) List.not_mem_nil
 | a::l,b::m,h1,h2,h=>by
  have r1:∀ x∈l,a<x:=fun x hx=>List.rel_of_pairwise_cons h1 hx;have r2:∀ x∈m,b<x:=fun x hx=>List.rel_of_pairwise_cons h2 hx
  have e:a=b:=by
   rcases List.mem_cons.mp ((h a).mp zzlms) with q | q
   ·exact q
   ·rcases List.mem_cons.mp ((h b).mpr zzlms) with q2 | q2
    ·exact q2.symm
    ·exact absurd (r2 a q) (Nat.not_lt.mpr (Nat.le_of_lt (r1 b q2)))
  subst e;rw[zEL (List.Pairwise.of_cons h1) (List.Pairwise.of_cons h2) fun x=>⟨fun hx=>?_,fun hx=>?_⟩]
  ·rcases List.mem_cons.mp ((h x).mp (zzlmc _ hx)) with q | q
   ·exact absurd (r1 x hx) (by rw[q];exact Nat.lt_irrefl _)
   ·exact q
  ·rcases List.mem_cons.mp ((h x).mpr (zzlmc _ hx)) with q | q
   ·exact absurd (r2 x hx) (by rw[q];exact Nat.lt_irrefl _)
   ·exact q
noncomputable def downP (nm:List Nat)(P:Nat→Bool):List Nat:=(List.range' 0 (nm.length+1)).reverse.filter P
theorem down_eq {fs:List Nat}{P:Nat→Bool}(h1:fs.reverse.Pairwise (· < ·))(h2:∀ x,x∈fs↔x≤nm.length∧P x=true):fs=downP nm P:=by
 have e:fs.reverse=(List.range' 0 (nm.length+1)).filter P:=zEL h1 (List.Pairwise.filter _ (List.pairwise_lt_range' ..)) fun x=>by
  rw[List.mem_reverse,h2,List.mem_filter,List.mem_range'_1];exact and_congr_left fun _x=>⟨fun h=>⟨Nat.zero_le _,by exact zn71 h⟩,fun h=>by exact zn70 h⟩
 unfold downP;rw[List.filter_reverse,←e,List.reverse_reverse]
theorem last_eq {seg:List Q6}{e:Nat}{P:Nat→Bool}(h:P e=true)(hm:∀ k,P k=true→e≤k):runE nm seg ([e].flatMap fun e=>(upN nm e).reverse)=downP nm (segP nm seg (stP P)):=by
 rw[zHX];refine down_eq ?_ fun x=>?_
 ·unfold runE;rw[List.filter_reverse,List.map_reverse,List.reverse_reverse];refine List.Pairwise.map _ (fun a b hab=>Nat.add_lt_add_right hab _) (List.Pairwise.filter _ ?_);exact List.pairwise_lt_range' ..
 ·unfold runE;rw[List.mem_map,zBB];constructor
  ·rintro ⟨y,h1,rfl⟩
   have h2:=List.mem_filter.mp h1;have h3:=List.mem_range'_1.mp (List.mem_reverse.mp h2.1);exact⟨zC9 h2.2 (zn31 h3),y,(zEN h hm).mpr h3.1,h2.2,rfl⟩
  ·rintro ⟨hx,y,h1,h2,rfl⟩
   refine⟨y,List.mem_filter.mpr ⟨List.mem_reverse.mpr (List.mem_range'_1.mpr ⟨(zEN h hm).mp h1,?_⟩),h2⟩,rfl⟩;have:=(zEN h hm).mp h1;exact zn327 hx
theorem zLT:∀ {segs:List (List Q6)} {es:List Nat} {P:Nat→Bool},segs≠[]→Low nm es P→finE nm segs es=downP nm (restP nm segs P)
 | [],_,_,h,_=>absurd rfl h
 | [seg],es,P,_,h=>by
  rcases h with ⟨rfl,h⟩ | ⟨e,rfl,he,h1,h2⟩
  ·rw[zG1];refine(List.filter_eq_nil_iff.mpr fun x _x=>?_).symm;rw[zD5 (segs:=[seg]) h x];exact zzbft
  ·exact last_eq h1 h2
 | seg::y::segs,es,P,_,h=>by
  rcases h with ⟨rfl,h⟩ | ⟨e,rfl,he,h1,h2⟩
  ·rw[zG1];refine(List.filter_eq_nil_iff.mpr fun x _x=>?_).symm;rw[zD5 (segs:=seg::y::segs) h x];exact zzbft
  ·exact zLT (segs:=y::segs) (fun h=>by cases h) (zK0 he h1 h2)
noncomputable def P0:Nat→Bool:=fun k=>decide (k=0)
theorem zMg {L:List (Option Q6)}:finE nm (zAc false L).2 (runE nm (zAc false L).1 [0])=downP nm (L.foldl (stepP nm) P0):=by
 rw[zBX L false P0 fun h=>by cases h];generalize (zAc false L).1=seg;have hP:∀ k,segP nm seg P0 k=true↔fitsS nm seg 0=true∧k=seg.length:=fun k=>by
  rw[zBB];constructor
  ·rintro ⟨e,h1,h2,h3⟩
   have h0:e=0:=zzode h1;subst h0;exact⟨h2,h3.trans (Nat.zero_add _)⟩
  ·rintro ⟨h1,h2⟩
   exact⟨0,rfl,h1,h2.trans (Nat.zero_add _).symm⟩
 have hr:runE nm seg [0]=if fitsS nm seg 0=true then [seg.length] else []:=by
  unfold runE;rw[List.filter_cons,List.filter_nil];cases fitsS nm seg 0 with
  | false=>rfl
  | true=>show [0+seg.length]=[seg.length];rw[Nat.zero_add]
 have hlow:Low nm (runE nm seg [0]) (segP nm seg P0):=by
  rw[hr];cases hf:fitsS nm seg 0 with
  | false=>
   refine .inl ⟨rfl,fun k=>?_⟩;rw[←Bool.not_eq_true,hP,hf];exact fun h=>by cases h.1
  | true=>
   refine .inr ⟨seg.length,rfl,?_,(hP _).mpr ⟨hf,rfl⟩,fun k hk=>Nat.le_of_eq ((hP k).mp hk).2.symm⟩;have:=zC9 hf (Nat.zero_le _)
   rwa [Nat.zero_add] at this
 cases hs:(zAc false L).2 with
 | cons s segs=>exact zLT (by simp) hlow
 | nil=>
  show runE nm seg [0]=downP nm (segP nm seg P0);refine down_eq ?_ fun x=>?_
  ·rw[hr];split<;>simp
  ·rw[hP,hr];cases hf:fitsS nm seg 0 with
   | false=>simp
   | true=>
    have:=zC9 hf (Nat.zero_le _);rw[Nat.zero_add] at this;rw[if_pos rfl,List.mem_singleton];exact⟨fun h=>⟨h▸this,rfl,h⟩,fun h=>h.2.2⟩
end
noncomputable def zDz:List (Str×Nat):=[("script",0),("pieces",1),("x",2),("pattern",3),("name",4),("code",5),("free",6),("piece",7)]
noncomputable abbrev dr_pc:EF:=b2 (b2 (nmC 1) (lstE (aCons (nmE 6) kA0)) addV) (b2 (nmC 2) (kI 22) modV) idxV
noncomputable abbrev dr_nm:EF:=b2 (lstE (aCons (s3 (nmC 7) (negE (kI 1)) kN) (aCons (kS [97]) (aCons (kS []) (aCons (kS [10]) (aCons (nmE 6) kA0)))))) (b2 (b2 (nmC 2) (kI 22) fdivV) (kI 5) modV) idxV
noncomputable def zB3:SF:=(seqS (asg (b2 (b2 (nmC 2) (kI 110) fdivV) (kI 1112064) modV) 5)
 (seqS (asg (bnd (ite3 (t2 (nmC 5) (kI 55296) ltV) (nmE 5) (b2 (nmC 5) (kI 2048) addV)) chrV) 6)
 (seqS (asg dr_pc 7)
 (seqS (aug 3 (nmC 7))
 (seqS (aug 4 dr_nm)
 nilS)))))
noncomputable def zCO:SF:=(seqS (asg (lstE (aCons (kS [42]) (aCons (kS [63]) (aCons (kS [91]) (aCons (kS [93]) (aCons (kS [97]) (aCons (kS [91,98,45,97,33]) (aCons (kS [45]) (aCons (kS [33]) (aCons (kS [98]) (aCons (kS [91,33]) (aCons (kS [97,45,99]) (aCons (kS [99,45,97]) (aCons (kS [91,93]) (aCons (kS [92]) (aCons (kS [94]) (aCons (kS [46]) (aCons (kS [124]) (aCons (kS [10]) (aCons (kS []) (aCons (kS [93]) (aCons (kS [42]) kA0)))))))))))))))))))))) 1)
 (seqS (tupS [3,4] (bCons (bV (kS [])) (bCons (bV (kS [])) kL0)))
 (seqS (forS (seqI (ite3 (t2 (bnd (nmC 0) lenV) (kI 2) gtV) (nmE 0) (b2 (nmC 0) (lstE (aCons (kI 5) (aCons (kI 4) (aCons (kI 3) (aCons (kI 0) kA0))))) addV))) (tgN 2) zB3)
 (seqS (retS (tupE (aCons (nmE 3) (aCons (nmE 4) kA0))))
 nilS))))
noncomputable def pcs6:List (List Nat):=[[42],[63],[91],[93],[97],[91,98,45,97,33],[45],[33],[98],[91,33],[97,45,99],[99,45,97],[91,93],[92],[94],[46],[124],[10],[],[93],[42]]
noncomputable abbrev drG (sc:V)(x:Option El)(p n:List Nat)(c f pc:Option El):List Slot:=fr [vl sc,vl (.lst (pcs6.map V.str)),x,vl (.str p),vl (.str n),c,f,pc] []
theorem zHW {x m:Int}(h:0<m){n:Nat}(hn:m=n):(x.fmod m).toNat<n:=by
 have h1:=Int.fmod_nonneg_of_pos x h;have h2:=Int.fmod_lt_of_pos x h;exact zn328 h1 h2 hn
theorem zOu {a:List Nat}:(slc a (some (-1)) none).length≤1:=by
 unfold slc;rw[List.length_take];refine zznlt (Nat.min_le_left _ _) ?_;show a.length-(a.length-1)≤1;exact zn329
theorem zIC {sc:V}{z:Int}{p n:List Nat}{c f pc:Option El}(hp:p.length≤1000)(hn:n.length≤1000):∃ a b c' f' pc',a.length≤5∧b.length≤1∧zB3 (drG sc (vl (.int z)) p n c f pc)=some (.next,drG sc (vl (.int z)) (p++a) (n++b) c' f' pc'):=by
 obtain⟨a,ha,hal⟩:∃ a,(pcs6++[[chOf (z.fdiv 110)]])[(z.fmod 22).toNat]? = some a∧a.length≤5:=by
  have hl:(z.fmod 22).toNat<(pcs6++[[chOf (z.fdiv 110)]]).length:=zHW (by decide) rfl;refine⟨_,List.getElem?_eq_getElem hl,?_⟩;rcases List.mem_append.mp (List.getElem_mem hl) with h | h
  ·exact(by decide:∀ r∈pcs6,r.length≤5) _ h
  ·rw[List.mem_singleton.mp h];exact zznbl rfl
 obtain⟨b,hb,hbl⟩:∃ b,[slc a (some (-1)) none,[97],[],[10],[chOf (z.fdiv 110)]][((z.fdiv 22).fmod 5).toNat]? = some b∧b.length≤1:=by
  have hl:((z.fdiv 22).fmod 5).toNat<[slc a (some (-1)) none,[97],[],[10],[chOf (z.fdiv 110)]].length:=zHW (by decide) rfl;refine⟨_,List.getElem?_eq_getElem hl,?_⟩;have hm:=List.getElem_mem hl;generalize [slc a (some (-1)) none,[97],[],[10],[chOf (z.fdiv 110)]][((z.fdiv 22).fmod 5).toNat]=y at hm ⊢;rcases List.mem_cons.mp hm with rfl | hm
  ·exact zOu
  ·simp only[List.mem_cons,List.not_mem_nil,or_false] at hm;rcases hm with rfl | rfl | rfl | rfl<;>exact zznbl rfl
 refine⟨a,b,vl (.int ((z.fdiv 110).fmod 1112064)),vl (.str [chOf (z.fdiv 110)]),vl (.str a),hal,hbl,?_⟩;have h7:∀ {pc:Option El},dr_pc (drG sc (vl (.int z)) p n (vl (.int ((z.fdiv 110).fmod 1112064))) (vl (.str [chOf (z.fdiv 110)])) pc)=some (.str a):=fun {_}=>
  x_b2 (x_b2 (x_nmC ⟨rfl⟩) (x_lst (zAb (x_nmE ⟨rfl⟩) x_kA0) ⟨zznbl rfl⟩) (zHI ⟨zznbl rfl⟩)) (x_b2 (x_nmC ⟨rfl⟩) x_kI (o_mod ⟨by decide⟩)) (zJw ⟨Int.fmod_nonneg_of_pos z (by decide)⟩ ⟨by
   have e:pcs6.map V.str++[V.str [chOf (z.fdiv 110)]]=(pcs6++[[chOf (z.fdiv 110)]]).map V.str:=by rw[List.map_append];rfl
   rw[e,List.getElem?_map,ha];rfl⟩)
 have h8:dr_nm (drG sc (vl (.int z)) (p++a) n (vl (.int ((z.fdiv 110).fmod 1112064))) (vl (.str [chOf (z.fdiv 110)])) (vl (.str a)))=some (.str b):=
  x_b2 (x_lst (xs:=[slc a (some (-1)) none,[97],[],[10],[chOf (z.fdiv 110)]].map V.str) (zAb (x_s3 (x_nmC ⟨rfl⟩) x_m1 x_kN rfl) (zAb x_kS (zAb x_kS (zAb x_kS (zAb (x_nmE ⟨rfl⟩) x_kA0))))) ⟨zznbl rfl⟩) (x_b2 (x_b2 (x_nmC ⟨rfl⟩) x_kI (zLK ⟨by decide⟩ ⟨by decide⟩)) x_kI (o_mod ⟨by decide⟩)) (zJw ⟨Int.fmod_nonneg_of_pos _ (by decide)⟩ ⟨by rw[List.getElem?_map,hb];rfl⟩)
 unfold zB3;exact s_seq (s_asg (x_b2 (x_b2 (x_nmC ⟨rfl⟩) x_kI (zLK ⟨by decide⟩ ⟨by decide⟩)) x_kI (o_mod ⟨by decide⟩)) ⟨rfl⟩ ⟨rfl⟩) (s_seq (s_asg (x_code (z:=z.fdiv 110) ⟨rfl⟩ ⟨rfl⟩) ⟨rfl⟩ ⟨rfl⟩) (s_seq (s_asg h7 ⟨rfl⟩ ⟨rfl⟩) (s_seq (s_aug (x_nmC ⟨rfl⟩) ⟨rfl⟩ (i_S ⟨by exact zznlt (Nat.add_le_add hp hal) (zznbl rfl)⟩) ⟨rfl⟩) (s_seq (s_aug h8 ⟨rfl⟩ (i_S ⟨by exact zznlt (Nat.add_le_add hn hbl) (zznbl rfl)⟩) ⟨rfl⟩) (s_nil ⟨rfl⟩)))))
theorem zEY {sc:V}:∀ (zs:List Int) (p n:List Nat) (x c f pc:Option El),p.length+5*zs.length≤1000→n.length+zs.length≤1000→
  ∃ p' n' x' c' f' pc',forL (tgN 2) zB3 (zs.map V.int) (drG sc x p n c f pc)=some (.next,drG sc x' p' n' c' f' pc')∧p'.length≤p.length+5*zs.length∧n'.length≤n.length+zs.length
 | [],p,n,x,c,f,pc,_,_=>⟨p,n,x,c,f,pc,rfl,Nat.le_refl _,Nat.le_refl _⟩
 | z::zs,p,n,x,c,f,pc,hp,hn=>by
  rw[List.length_cons] at hp hn;obtain⟨a,b,c1,f1,pc1,ha,hb,h1⟩:=zIC (sc:=sc) (z:=z) (p:=p) (n:=n) (c:=c) (f:=f) (pc:=pc) (zznlt (zznar _ _) hp) (zznlt (zznar _ _) hn);obtain⟨p',n',x',c',f',pc',h2,h3,h4⟩:=zEY zs (p++a) (n++b) (vl (.int z)) c1 f1 pc1 (by rw[List.length_append];exact zn334 hp ha) (by rw[List.length_append];exact zn335 hn hb);rw[List.length_append] at h3 h4;exact⟨p',n',x',c',f',pc',(zDd (zEQ (by simp)) h1).trans h2,by rw[List.length_cons];exact zn336 h3 ha,by rw[List.length_cons];exact zn337 h4 hb⟩
theorem zKg {ns:List Int}(hn:ns.length≤20):∃ p w,p.length≤100∧w.length≤20∧Ret zCO (fr [vl (.lst (ns.map .int)),none,none,none,none,none,none,none] []) (.tup [.str p,.str w]):=by
 obtain⟨zs,hz,hl⟩:∃ zs:List Int,zs.length≤20∧(ite3 (t2 (bnd (nmC 0) lenV) (kI 2) gtV) (nmE 0) (b2 (nmC 0) (lstE (aCons (kI 5) (aCons (kI 4) (aCons (kI 3) (aCons (kI 0) kA0))))) addV)) (drG (.lst (ns.map .int)) none [] [] none none none)=some (.lst (zs.map V.int)):=by
  have ht:t2 (bnd (nmC 0) lenV) (kI 2) gtV (drG (.lst (ns.map .int)) none [] [] none none none)=some (decide (2<ns.length)):=by
   refine Eq.trans (x_t2 (x_bnd (x_nmC ⟨rfl⟩) zD8) x_k2 (o_gt o_ltN)) ?_;rw[List.length_map]
  by_cases h:2<ns.length
  ·exact⟨ns,hn,zBA ht (zzdet h) (x_nmE ⟨rfl⟩)⟩
  ·refine⟨ns++[5,4,3,0],by rw[List.length_append];show ns.length+4≤20;exact zn338 h,zBn ht (zzdef h) ?_⟩;rw[List.map_append];exact x_b2 (x_nmC ⟨rfl⟩) (rfl:_=some (V.lst [.int 5,.int 4,.int 3,.int 0])) (zHI ⟨by simp;exact zn339 h⟩)
 obtain⟨p,w,x',c',f',pc',h1,h2,h3⟩:=zEY (sc:=.lst (ns.map .int)) zs [] [] none none none none (by simp;exact zn340 hz) (by simp;exact zznlt hz (zznal _ _));rw[List.length_nil,Nat.zero_add] at h2 h3;refine⟨p,w,by exact zn342 h2 hz,by exact zznlt h3 hz,?_⟩;unfold zCO;exact q_seq (s_asg (v:=.lst (pcs6.map V.str)) rfl ⟨rfl⟩ ⟨rfl⟩) (q_seq (zJh (es:=[.val (.str []),.val (.str [])]) (zAE (x_bV x_kS) (zAE (x_bV x_kS) x_kL0)) ⟨rfl⟩ ⟨rfl⟩ ⟨zznbl rfl⟩ ⟨rfl⟩) (q_seq (s_for (zBL hl o_itL) h1) (zBv (q_ret (x_tup (zAb (x_nmE ⟨rfl⟩) (zAb (x_nmE ⟨rfl⟩) x_kA0)) ⟨zznbl rfl⟩)))))
noncomputable def zCN:List V→Option V:=ctr (fun xs=>∃ ns:List Int,ns.length≤20∧xs=[.lst (ns.map .int)]) zCO 7
theorem zNo {ns:List Int}(hn:ns.length≤20):∃ p w,p.length≤100∧w.length≤20∧zCN [.lst (ns.map .int)]=some (.tup [.str p,.str w]):=by
 refine ze23 (zKg hn) fun p w h1 h2 h3=>?_;exact⟨p,w,h1,h2,zCR ⟨ns,hn,rfl⟩ h3⟩
noncomputable def zEW:List (Str×Nat):=[("script",0),("text",1),("steps",2),("items",3),("name",4),("pattern",5),("whole",6),("reached",7),("item",8)]
noncomputable def zB2:SF:=(seqS (ifS (t2 (nmC 8) (kS [42]) eqV) (seqS (asg (valN (compF [11] (r1V (bnd (nmC 7) lenV)) (tgN 11) (kT true) (booE (t2 (kB true) (s3 (nmC 7) kN (b2 (nmC 11) (kI 1) addV)) inV)))) 7)
 nilS) (seqS (asg (b2 (lstE (aCons (kB false) kA0)) (valN (compF [12] (r1V (bnd (nmC 4) lenV)) (tgN 12) (kT true) (bAnd (b2 (nmC 7) (nmC 12) idxV) (bndL (aCons (nmE 8) (aCons (b2 (nmC 4) (nmC 12) idxV) kA0)) zA0)))) addV) 7)
 nilS))
 nilS)
noncomputable def zDN:SF:=(seqS (asg (b2 (lstE (aCons (kB true) kA0)) (b2 (lstE (aCons (kB false) kA0)) (bnd (nmC 4) lenV) mulV) addV) 7)
 (seqS (forS (seqI (nmE 3)) (tgN 8) zB2)
 (seqS (ifS (t2 (bndL (aCons (nmE 2) (aCons (nmE 4) kA0)) zDO) (valN (compF [10] (r3V (bnd (nmC 4) lenV) (negE (kI 1)) (negE (kI 1))) (tgN 10) (tT (b2 (nmC 7) (nmC 10) idxV)) (nmE 10))) neV) (seqS (retS (kB false))
 nilS) nilS)
 nilS)))
noncomputable def zG8:SF:=(seqS (asg (s3 (nmC 0) kN (kI 20)) 0)
 (seqS (unpS (bndL (aCons (nmE 0) kA0) zCN) (tgT [5,6]))
 (seqS (asg (bndL (aCons (nmE 5) kA0) zEh) 1)
 (seqS (asg (bndL (aCons (s3 (nmC 1) (kI 4) (negE (kI 3))) kA0) zBR) 2)
 (seqS (ifS (tOr (t2 (s3 (nmC 1) kN (kI 4)) (kS [40,63,115,58]) neV) (tOr (t2 (s3 (nmC 1) (negE (kI 3)) kN) (kS [41,92,90]) neV) (tOr (t2 (nmC 2) kN isNV) (kT false)))) (seqS (retS (kB false))
 nilS) nilS)
 (seqS (asg (bndL (aCons (nmE 5) kA0) zCL) 3)
 (seqS (forS (seqI (valN (compF [9] (r1V (b2 (bnd (nmC 6) lenV) (kI 1) addV)) (tgN 9) (kT true) (s3 (nmC 6) (nmE 9) kN)))) (tgN 4) zDN)
 (seqS (retS (kB true))
 nilS))))))))
noncomputable def rb (n:Nat)(P:Nat→Bool):List V:=(List.range' 0 (n+1)).map fun k=>V.bool (P k)
theorem rb_at {n k:Nat}{P:Nat→Bool}(h:k≤n):(rb n P)[k]? = some (.bool (P k)):=by
 unfold rb;rw[List.getElem?_map,List.getElem?_range' (Nat.lt_succ_of_le h)];show some (V.bool (P (0+1*k)))=_;rw[Nat.one_mul,Nat.zero_add]
theorem zN5 {n:Nat}{P:Nat→Bool}:(rb n P).length=n+1:=by unfold rb;rw[List.length_map,List.length_range']
theorem zCc {α:Type}{f:Nat→α}:∀ {n a:Nat},(List.range' (a+1) n).map f=(List.range' a n).map fun k=>f (k+1)
 | 0,_=>rfl
 | n+1,a=>by rw[List.range'_succ,List.range'_succ,List.map_cons,List.map_cons,zCc (n:=n)]
theorem zDZ:∀ {k n a:Nat},k≤n→(List.range' a n).take k=List.range' a k
 | 0,_,_,_=>rfl
 | k+1,0,_,h=>absurd h (Nat.not_succ_le_zero _)
 | k+1,n+1,a,h=>by rw[List.range'_succ,List.range'_succ,List.take_succ_cons,zDZ (Nat.le_of_succ_le_succ h)]
theorem zK8:∀ {l:List Nat} {P:Nat→Bool},inL (.bool true) (l.map fun k=>V.bool (P k))=some (l.any P):=fun {l P}=>by
 have h:zAw (l.map fun k=>V.bool (P k))=true:=zAG fun v hv=>by
  obtain⟨s,_,rfl⟩:=List.mem_map.mp hv;rfl
 have hd:deps (l.map fun k=>V.bool (P k))=0:=by
  clear h
  induction l with
  | nil=>rfl
  | cons a l ih=>show max 0 _=0;rw[ih];rfl
 refine Eq.trans (if_pos ?_) (congrArg some ?_)
 ·rw[h,hd];simp[noObj,dep]
 ·clear h hd
  induction l with
  | nil=>rfl
  | cons a l ih=>
   show ((py (.bool (P a))).eqv (py (.bool true))||(pys (l.map fun k=>V.bool (P k))).any fun y=>y.eqv (py (.bool true)))=(P a||l.any P);rw[ih];congr 1;cases P a<;>rfl
noncomputable abbrev lwF (sc tx st:V)(L:List (Option Q6))(nm p w:List Nat)(re it:Option El):List Slot:=fr [vl sc,vl tx,vl st,vl (.lst (L.map vI6)),vl (.str nm),vl (.str p),vl (.str w),re,it,none,none,none,none] []
section
variable {sc tx st:V} {L:List (Option Q6)} {nm p w:List Nat} {P:Nat→Bool}
theorem zMX (hn:nm.length≤1000):zB2 (lwF sc tx st L nm p w (vl (.lst (rb nm.length P))) (vl (vI6 none)))=some (.next,lwF sc tx st L nm p w (vl (.lst (rb nm.length (stP P)))) (vl (vI6 none))):=by
 unfold zB2;have hc:compF [11] (r1V (bnd (nmC 7) lenV)) (tgN 11) (kT true) (booE (t2 (kB true) (s3 (nmC 7) kN (b2 (nmC 11) (kI 1) addV)) inV)) (lwF sc tx st L nm p w (vl (.lst (rb nm.length P))) (vl (vI6 none)))=some (rb nm.length (stP P)):=by
  refine zDW (q:=fun (i:Nat)=>V.int i) (h:=fun k=>V.bool (stP P k)) ⟨rfl⟩ (x_r1 (x:=.int ((nm.length+1:Nat):Int)) (Eq.trans (x_bnd (x_nmC ⟨rfl⟩) zD8) (by rw[zN5])) (zEM ⟨by exact zznlu hn (zznbl rfl)⟩)) ⟨by rw[List.length_range'];exact zznlu hn (zznbl rfl)⟩ fun k hk=>?_;have hk:k<nm.length+1:=by simpa using (List.mem_range'_1.mp hk).2
  have ht:(rb nm.length P).take (k+1)=(List.range' 0 (k+1)).map fun k=>V.bool (P k):=by
   unfold rb;rw[←List.map_take,zDZ hk]
  have hi:inV (.bool true) (.lst ((rb nm.length P).take (k+1)))=some (stP P k):=by rw[ht];exact zK8
  exact zEB (x_t2 x_kB (x_s3 (x_nmC ⟨rfl⟩) x_kN (x_b2 (x_nmC ⟨rfl⟩) x_k1 zAm) zJv) hi)
 exact s_seq (zAs (x_t2 (x_nmC ⟨rfl⟩) x_kS o_eqS) rfl (s_seq (s_asg (zBK hc) ⟨rfl⟩ ⟨rfl⟩) (s_nil ⟨rfl⟩))) (s_nil ⟨rfl⟩)
theorem zOg {q:Q6}(hn:nm.length≤1000)(hq:q.2.length≤100000):zB2 (lwF sc tx st L nm p w (vl (.lst (rb nm.length P))) (vl (vI6 (some q))))=some (.next,lwF sc tx st L nm p w (vl (.lst (rb nm.length (onP nm P q)))) (vl (vI6 (some q)))):=by
 unfold zB2;have hc:compF [12] (r1V (bnd (nmC 4) lenV)) (tgN 12) (kT true) (bAnd (b2 (nmC 7) (nmC 12) idxV) (bndL (aCons (nmE 8) (aCons (b2 (nmC 4) (nmC 12) idxV) kA0)) zA0)) (lwF sc tx st L nm p w (vl (.lst (rb nm.length P))) (vl (vI6 (some q))))=some ((List.range' 0 nm.length).map fun k=>V.bool (onP nm P q (k+1))):=by
  refine zDW (q:=fun (i:Nat)=>V.int i) (h:=fun k=>V.bool (onP nm P q (k+1))) ⟨rfl⟩ (x_r1 (x_bnd (x_nmC ⟨rfl⟩) zBe) (zEM ⟨by exact zznlt hn (zznal _ _)⟩)) ⟨by rw[List.length_range'];exact zznlt hn (zznal _ _)⟩ fun k hk=>?_;have hk:k<nm.length:=by simpa using (List.mem_range'_1.mp hk).2
  have hr:b2 (nmC 7) (nmC 12) idxV (fr ([vl sc,vl tx,vl st,vl (.lst (L.map vI6)),vl (.str nm),vl (.str p),vl (.str w),vl (.lst (rb nm.length P)),vl (vI6 (some q)),none,none,none,none].set 12 (vl (.int (k:Nat)))) [])=some (.bool (P k)):=x_b2 (x_nmC ⟨rfl⟩) (x_nmC ⟨rfl⟩) (zA5 ⟨rb_at (Nat.le_of_lt hk)⟩);have hc:nm[k]? = some nm[k]:=zzlge hk
  have ho:onP nm P q (k+1)=(P k&&tk6 q nm[k]):=by
   show (P k&&fit (tk6 q) nm k)=_;unfold fit;rw[hc];rfl
  rw[ho];cases hP:P k with
  | false=>rw[hP] at hr;exact zL9 hr zCB
  | true=>
   rw[hP] at hr;exact zL8 hr zCB (zA4 (zAb (x_nmE ⟨rfl⟩) (zAb (x_b2 (x_nmC ⟨rfl⟩) (x_nmC ⟨rfl⟩) (zAZ ⟨hc⟩)) x_kA0)) (zIU hq))
 have e:[V.bool false]++((List.range' 0 nm.length).map fun k=>V.bool (onP nm P q (k+1)))=rb nm.length (onP nm P q):=by
  unfold rb;rw[List.range'_succ,List.map_cons,zCc (f:=fun k=>V.bool (onP nm P q k))];rfl
 have h42:t2 (nmC 8) (kS [42]) eqV (lwF sc tx st L nm p w (vl (.lst (rb nm.length P))) (vl (vI6 (some q))))=some false:=x_t2 (x:=vI6 (some q)) (x_nmC ⟨rfl⟩) x_kS (st_eq (s:=.one q.1 q.2));refine s_seq (zAi h42 rfl (s_seq (s_asg (v:=.lst (rb nm.length (onP nm P q))) ?_ ⟨rfl⟩ ⟨rfl⟩) (s_nil ⟨rfl⟩))) (s_nil ⟨rfl⟩);rw[←e];exact x_b2 (x_lst (zAb x_kB x_kA0) ⟨zznbl rfl⟩) (zBK hc) (zHI ⟨by rw[List.length_map,List.length_range',List.length_singleton];exact zn73 hn⟩)
theorem lw_tg {v re:V}{it:Option El}:tgN 8 v (lwF sc tx st L nm p w (vl re) it)=some (lwF sc tx st L nm p w (vl re) (vl v)):=zEQ (zznbl rfl)
theorem zFr (hn:nm.length≤1000){L0:List (Option Q6)}:∀ (L:List (Option Q6)) (P:Nat→Bool) (it:Option El),(∀ q,some q∈L→q.2.length≤100000)→
  ∃ it',forL (tgN 8) zB2 (L.map vI6) (lwF sc tx st L0 nm p w (vl (.lst (rb nm.length P))) it)=some (.next,lwF sc tx st L0 nm p w (vl (.lst (rb nm.length (L.foldl (stepP nm) P)))) it')
 | [],P,it,_=>⟨it,rfl⟩
 | none::L,P,it,h=>by
  obtain⟨it',h2⟩:=zFr hn (L0:=L0) L (stP P) (vl (vI6 none)) fun q hq=>h q (zzlmc _ hq);exact⟨it',(zDd (lw_tg (v:=vI6 none)) (zMX hn)).trans h2⟩
 | some q::L,P,it,h=>by
  obtain⟨it',h2⟩:=zFr hn (L0:=L0) L (onP nm P q) (vl (vI6 (some q))) fun q hq=>h q (zzlmc _ hq);exact⟨it',(zDd (lw_tg (v:=vI6 (some q))) (zOg hn (h q zzlms))).trans h2⟩
theorem zMY {ss:List St}(hn:nm.length≤1000)(hL:∀ q,some q∈L→q.2.length≤100000)(hw:Wy nm [0] ss (downP nm (L.foldl (stepP nm) P0))){re it:Option El}:∃ re' it',zDN (lwF sc tx (.lst (ss.map St.v)) L nm p w re it)=some (.next,lwF sc tx (.lst (ss.map St.v)) L nm p w re' it'):=by
 refine ze11 (zFr (sc:=sc) (tx:=tx) (st:=.lst (ss.map St.v)) (p:=p) (w:=w) hn (L0:=L) L P0 it hL) fun it' hl=>?_;refine⟨vl (.lst (rb nm.length (L.foldl (stepP nm) P0))),it',?_⟩;generalize L.foldl (stepP nm) P0=P at hl hw ⊢;unfold zDN;have h0:(b2 (lstE (aCons (kB true) kA0)) (b2 (lstE (aCons (kB false) kA0)) (bnd (nmC 4) lenV) mulV) addV) (lwF sc tx (.lst (ss.map St.v)) L nm p w re it)=some (.lst (rb nm.length P0)):=by
  have hm:mulV (.lst [V.bool false]) (.int (nm.length:Nat))=some (.lst (List.replicate nm.length (V.bool false))):=by
   refine Eq.trans (if_pos ⟨by exact Int.natCast_nonneg _,by exact zn346 hn,by decide⟩) ?_;rw[Int.toNat_natCast];congr 2;clear hl hw hL hn
   induction nm.length with
   | zero=>rfl
   | succ n ih=>rw[List.replicate_succ,List.flatten_cons,ih,List.replicate_succ];rfl
  have e:[V.bool true]++List.replicate nm.length (V.bool false)=rb nm.length P0:=by
   unfold rb;rw[List.range'_succ,List.map_cons,zCc (f:=fun k=>V.bool (P0 k))];show V.bool true::List.replicate nm.length (V.bool false)=V.bool true::(List.range' 0 nm.length).map fun _x=>V.bool false;rw[List.map_const',List.length_range']
  rw[←e];exact x_b2 (x_lst (zAb x_kB x_kA0) ⟨zznbl rfl⟩) (x_b2 (x_lst (zAb x_kB x_kA0) ⟨zznbl rfl⟩) (x_bnd (x_nmC ⟨rfl⟩) zBe) hm) (zHI ⟨by rw[List.length_replicate,List.length_singleton];exact zn73 hn⟩)
 have hd:compF [10] (r3V (bnd (nmC 4) lenV) (negE (kI 1)) (negE (kI 1))) (tgN 10) (tT (b2 (nmC 7) (nmC 10) idxV)) (nmE 10) (lwF sc tx (.lst (ss.map St.v)) L nm p w (vl (.lst (rb nm.length P))) it')=some ((downP nm P).map fun (i:Nat)=>V.int i):=by
  unfold downP;refine zDV (q:=fun (i:Nat)=>V.int i) (h:=fun (i:Nat)=>V.int i) ⟨rfl⟩ (x_r3 (x_bnd (x_nmC ⟨rfl⟩) zBe) x_m1 x_m1 (zJl (p:=0) (zznlt hn (zznal _ _)) (Nat.zero_le _))) ⟨by rw[List.length_reverse,List.length_range'];exact zznlu hn (zznbl rfl)⟩ (fun k hk=>?_) fun k _x _x=>x_nmE ⟨rfl⟩;have hk:k<nm.length+1:=by simpa using (List.mem_range'_1.mp (List.mem_reverse.mp hk)).2
  exact x_tT (x_b2 (x_nmC ⟨rfl⟩) (x_nmC ⟨rfl⟩) (zA5 ⟨rb_at (Nat.le_of_lt_succ hk)⟩)) zCB
 exact s_seq (s_asg h0 ⟨rfl⟩ ⟨rfl⟩) (s_seq (s_for (zBL (x_nmE ⟨rfl⟩) o_itL) hl) (s_seq (zAi (x_t2 (zA4 (zAb (x_nmE ⟨rfl⟩) (zAb (x_nmE ⟨rfl⟩) x_kA0)) (zOt hw hn)) (zBK hd) (o_ne (zNm fun v hv=>by
  refine ze12 (List.mem_map.mp hv) fun i _ z6=>?_;subst z6;exact⟨rfl,Nat.zero_le _⟩))) rfl (s_nil ⟨rfl⟩)) (s_nil ⟨rfl⟩)))
theorem zHM {ss:List St}(hL:∀ q,some q∈L→q.2.length≤100000)(hw:∀ nm:List Nat,nm.length≤900→Wy nm [0] ss (downP nm (L.foldl (stepP nm) P0))):∀ (ns:List (List Nat)),(∀ nm∈ns,nm.length≤900)→∀ (n0 re it:Option El),
  ∃ n' re' it',forL (tgN 4) zDN (ns.map V.str) (fr [vl sc,vl tx,vl (.lst (ss.map St.v)),vl (.lst (L.map vI6)),n0,vl (.str p),vl (.str w),re,it,none,none,none,none] [])=some (.next,fr [vl sc,vl tx,vl (.lst (ss.map St.v)),vl (.lst (L.map vI6)),n',vl (.str p),vl (.str w),re',it',none,none,none,none] [])
 | [],_,n0,re,it=>⟨n0,re,it,rfl⟩
 | nm::ns,h,n0,re,it=>by
  have hn:=h nm zzlms;obtain⟨re1,it1,h1⟩:=zMY (sc:=sc) (tx:=tx) (p:=p) (w:=w) (zznlt hn (by decide)) hL (hw nm hn) (re:=re) (it:=it);obtain⟨n',re',it',h2⟩:=zHM hL hw ns (fun m hm=>h m (zzlmc _ hm)) (vl (.str nm)) re1 it1;exact⟨n',re',it',(zDd (zEQ (zznbl rfl)) h1).trans h2⟩
end
theorem law_B {ns:List Int}:Ret zG8 (fr [vl (.lst (ns.map .int)),none,none,none,none,none,none,none,none,none,none,none,none] []) (.bool true):=by
 obtain⟨p,w,hp,hw,hd⟩:=zNo (ns:=ns.take 20) (by rw[List.length_take];exact Nat.min_le_left _ _);refine ze11 (Mn6.total p.length p (zznlr _)) fun P hP=>?_;have hpt:=hP.ptx (zznlt hp (by decide));have hst:=zKI hP (zznlt hp (by decide));have hlen:=hP.len;have hsl:=split_len P false;have hrl:=zHC (segs:=(zAc false P).2.map sgP);have hmk:=zGf (segs:=(zAc false P).2.map sgP);have hml:=zDK (seg:=sgP (zAc false P).1);have hl1:(sgP (zAc false P).1).length=(zAc false P).1.length:=List.length_map _;have hl2:((zAc false P).2.map sgP).length=(zAc false P).2.length:=List.length_map _
 have hsum:(((zAc false P).2.map sgP).map List.length).sum=((zAc false P).2.map List.length).sum:=by
  rw[List.map_map];exact congrArg List.sum (List.map_congr_left fun s _x=>List.length_map _)
 have hss:((sgP (zAc false P).1).map oneS++restS ((zAc false P).2.map sgP)).length≤400:=by
  rw[List.length_append,List.length_map];exact zn347 hp hlen hsl hrl hl1 hl2 hsum
 have hsF:zBR [.str (textOf (rnOf p))]=some (.lst (((sgP (zAc false P).1).map oneS++restS ((zAc false P).2.map sgP)).map St.v)):=zMt (n:=((zAc false P).2.map sgP).length-1) hst (by rw[List.filter_append,hml,hmk];rfl) (zznlu hss (by decide)) (zn348 hsl hlen hp hl2);have htr:zEh [.str p]=some (.str (zAB (textOf (rnOf p)))):=if_pos (zznlt hp (by decide));have hit:=zM8 hP (zznlt hp (by decide));have hsp:zAc false (P.map (Option.map Prod.snd))=(sgP (zAc false P).1,(zAc false P).2.map sgP):=zCt Prod.snd P false
 have hq:∀ q,some q∈P.map (Option.map Prod.snd)→q.2.length≤100000:=fun q h=>by
  refine ze12 (List.mem_map.mp h) fun x hx he=>?_;cases x with
  | none=>cases he
  | some x=>rw[←Option.some.inj he];exact zznlt (hpt x hx).le (by decide)
 have hwy:∀ nm:List Nat,nm.length≤900→Wy nm [0] ((sgP (zAc false P).1).map oneS++restS ((zAc false P).2.map sgP)) (downP nm ((P.map (Option.map Prod.snd)).foldl (stepP nm) P0)):=fun nm hn=>by
  have e:=zMg (nm:=nm) (L:=P.map (Option.map Prod.snd));rw[hsp] at e;rw[←e];refine zNI hn (fun q h=>?_) fun s hs q h=>?_
  ·refine ze12 (List.mem_map.mp h) fun x hx z0=>?_;subst z0;exact zznlt (hpt x (zBb (.inl hx))).le (by decide)
  ·refine ze12 (List.mem_map.mp hs) fun t ht z1=>?_;subst z1;refine ze12 (List.mem_map.mp h) fun x hx z2=>?_;subst z2;exact zznlt (hpt x (zBb (.inr ⟨t,ht,hx⟩))).le (by decide)
 clear hpt hst hlen hsl hrl hmk hml hl1 hl2 hsum hss hsp hP;generalize (sgP (zAc false P).1).map oneS++restS ((zAc false P).2.map sgP)=ss at *;generalize P.map (Option.map Prod.snd)=L at *;generalize textOf (rnOf p)=tx at *;have hns:compF [9] (r1V (b2 (bnd (nmC 6) lenV) (kI 1) addV)) (tgN 9) (kT true) (s3 (nmC 6) (nmE 9) kN) (fr [vl (.lst ((ns.take 20).map .int)),vl (.str (zAB tx)),vl (.lst (ss.map St.v)),vl (.lst (L.map vI6)),none,vl (.str p),vl (.str w),none,none,none,none,none,none] [])=some (((List.range' 0 (w.length+1)).map fun k=>w.drop k).map V.str):=by
  rw[List.map_map];exact zDW (q:=fun (i:Nat)=>V.int i) (h:=V.str∘fun k=>w.drop k) ⟨rfl⟩ (x_r1 (x_b2 (x_bnd (x_nmC ⟨rfl⟩) zBe) x_k1 zAm) (zEM ⟨by exact zznlu hw (zznbl rfl)⟩)) ⟨by rw[List.length_range'];exact zznlu hw (zznbl rfl)⟩ fun k _x=>x_s3 (x_nmC ⟨rfl⟩) (x_nmE ⟨rfl⟩) x_kN zD7
 obtain⟨n',re',it',hl⟩:=zHM (sc:=.lst ((ns.take 20).map .int)) (tx:=.str (zAB tx)) (p:=p) (w:=w) hq hwy ((List.range' 0 (w.length+1)).map fun k=>w.drop k) (fun nm hm=>by
  refine ze12 (List.mem_map.mp hm) fun k _ z3=>?_;subst z3;rw[List.length_drop];exact zn351 hw) none none none
 have k4:∀ {η:List Slot},kI 4 η=some (.int ((4:Nat):Int)):=rfl;have k20:∀ {η:List Slot},kI 20 η=some (.int ((20:Nat):Int)):=rfl;have m3:∀ {η:List Slot},negE (kI 3) η=some (.int (-3)):=rfl;unfold zG8;refine q_seq (s_asg (v:=.lst ((ns.take 20).map .int)) (x_s3 (x_nmC ⟨rfl⟩) x_kN k20 (by rw[List.map_take];exact zJv)) ⟨rfl⟩ ⟨rfl⟩) (q_seq (s_unp (zA4 (zAb (x_nmE ⟨rfl⟩) x_kA0) hd) ⟨rfl⟩ ⟨rfl⟩ ⟨rfl⟩) (q_seq (s_asg (zA4 (zAb (x_nmE ⟨rfl⟩) x_kA0) htr) ⟨rfl⟩ ⟨rfl⟩)
  (q_seq (s_asg (zA4 (zAb (x_s3 (x_nmC ⟨rfl⟩) k4 m3 zNZ) x_kA0) hsF) ⟨rfl⟩ ⟨rfl⟩) (q_seq (zAi (x_or (x_t2 (x_s3 (x_nmC ⟨rfl⟩) x_kN k4 zMN) x_kS (o_ne o_eqS)) (x_or (x_t2 (x_s3 (x_nmC ⟨rfl⟩) m3 x_kN zN0) x_kS (o_ne o_eqS)) (x_or (x_t2 (x_nmC ⟨rfl⟩) x_kN (rfl:isNV (.lst (ss.map St.v)) .none=some false)) x_kT))) ?_ (s_nil ⟨rfl⟩)) ?_))))
 ·rfl
 ·exact q_seq (s_asg (zA4 (zAb (x_nmE ⟨rfl⟩) x_kA0) hit) ⟨rfl⟩ ⟨rfl⟩) (q_seq (s_for (zBL (zBK hns) o_itL) hl) (zBv (q_ret x_kB)))
noncomputable abbrev pw:Program:=PySem.Challenge.pw_io0066_06
noncomputable abbrev rwl:OpenLaw:=PySem.Challenge.rw_io0066_06
noncomputable abbrev zCf:List Str:=["_twin_re_1","_special_chars_map"]
noncomputable def vw:Program:=view pw [0,3,6,8,9,11,12,13,14,15,16,17,18,19]
theorem zJ6 {g:GC}{j:Nat}(hG:GOk g)(B:Bs g)(hT:zDm g "_special_chars_map" specials):WS g j (mkFS (zAd pw "escape") zEX none) (bodyOf pw "escape") zNk:=by
 exact WS.cons (zOM (WT.val (zOC (zQu hG B.isinstance rfl B.str rfl (zOB (i:=0) rfl rfl) zK6 rfl (by decide))) (fun _x _x=>rfl)) (WS.cons (zO1 (WE.trans hG hT rfl (zOB (i:=0) rfl rfl) (fun _x=>rfl) rfl (by decide))) zOF) WS.none) zOF
noncomputable abbrev gpos:Pos:=⟨62,37,62,98⟩
noncomputable abbrev lpos:Pos:=⟨63,39,63,76⟩
theorem zLf {g:GC}{j:Nat}{c:Addr}{q:Str}(hG:GOk g)(B:Bs g)(hgen:GenOk g c)(h_esc:FnOk g j "escape" zEn)
  (hpat:∃ p,g.mg "_twin_re_1"=some (.ref p)∧PatAt g.h0 p) (hkg:(gpos,q++"<genexpr>")∈g.known) (hkl:(lpos,q++"<lambda>")∈g.known)
  (hfun:∀ p' q',(p',q')∈g.known→p'.line=lpos.line→p'.col=lpos.col→q'=q++"<lambda>"):WS g (j+1) (mkFS (zAd pw "_translate") zEi (some (c,q))) (bodyOf pw "_translate") zJ2:=by
 have hcode:(mkFS (zAd pw "_translate") zEi (some (c,q))).code=some (c,q):=rfl;have h_esc:=h_esc.mono (Nat.le_succ j);refine WS.cons (zOT (i:=3) (WN.list zOI) rfl (fun _x=>rfl)) ?_;refine WS.cons (zPj (a:=4) (r:=3) rfl rfl (by decide)) ?_;refine WS.cons (zO6 (xs:=["i","n"]) (is:=[5,6]) (zO0 zOE (zO0 (zOO hG rfl B.len (by intro a h;cases h) (zOB (i:=0) rfl rfl) Op1.len rfl (by decide)) zPf rfl) rfl) (.cons rfl (.cons rfl .nil)) (fun env hE=>by rw[zAr hE];rfl)) ?_;refine WS.cons ?_ (WS.cons (zPl (zOD (zOB (i:=5) rfl rfl) (zOB (i:=6) rfl rfl) Cmp2.eq rfl)) (WS.cons (zPo 3 (zO1 (zOH (i:=3) rfl rfl))) zOF));refine zOS (N:=100000) (zOD (zOB (i:=5) rfl rfl) (zOB (i:=6) rfl rfl) Cmp2.lt rfl) ?_;refine WS.cons (W1.assign (i:=7) (WE.sub (zOB (i:=0) rfl rfl) (zOB (i:=5) rfl rfl) (fun _x _x=>rfl)) rfl (fun _x=>rfl)) ?_;refine WS.cons (W1.assign (i:=5) (zOG (zOB (i:=5) rfl rfl) (zOC zOE) Op2.add) rfl (fun _x=>rfl)) ?_;refine WS.cons ?_ zOF;refine zOM (zOD (zOB (i:=7) rfl rfl) (zOC (zks (l:=[42]) (by kernel_rfl) (by decide +kernel))) Cmp2.eq rfl) ?_ ?_
 ·refine WS.cons ?_ zOF;refine zOM ?_ (WS.cons (zOL (a:=4) (z:="res") (r:=3) (zOH (i:=1) rfl rfl) rfl rfl rfl (by decide)) zOF) zOF;refine zPG ?_;exact zOX (zQr (WT.val (zOB (i:=3) rfl rfl) (fun _x _x=>rfl))) (zOX (zOD (zOC (WE.sub (zOB (i:=3) rfl rfl) (zOC (WE.ne (zOC zOE))) (fun _x _x=>rfl))) (zOB (i:=1) rfl rfl) zO4 rfl) zO3)
 refine WS.cons ?_ zOF;refine zOM (zOD (zOB (i:=7) rfl rfl) (zOC (zks (l:=[63]) (by kernel_rfl) (by decide +kernel))) Cmp2.eq rfl) (WS.cons (zOL (a:=4) (z:="res") (r:=3) (zOH (i:=2) rfl rfl) rfl rfl rfl (by decide)) zOF) ?_;refine WS.cons ?_ zOF;refine zOM (zOD (zOB (i:=7) rfl rfl) (zOC (zks (l:=[91]) (by kernel_rfl) (by decide +kernel))) Cmp2.eq rfl) ?_ (WS.cons (zOL (a:=4) (z:="res") (r:=3) (zOR hG rfl h_esc (WA.cons (zOH (i:=7) rfl rfl) zOI rfl) rfl (fun _x=>rfl) (by decide)) rfl rfl rfl (by decide)) zOF);refine WS.cons (W1.assign (i:=8) (zOH (i:=5) rfl rfl) rfl (fun _x=>rfl)) ?_;refine WS.cons ?_ ?_
 ·refine zOM ?_ (WS.cons (W1.assign (i:=8) (zOG (zOB (i:=8) rfl rfl) (zOC zOE) Op2.add) rfl (fun _x=>rfl)) zOF) zOF;refine zOZ ?_;exact zON (zOD (zOB (i:=8) rfl rfl) (zOB (i:=6) rfl rfl) Cmp2.lt rfl) (zON (zOD (zOC (WE.sub (zOB (i:=0) rfl rfl) (zOB (i:=8) rfl rfl) (fun _x _x=>rfl))) (zOC (zks (l:=[33]) (by kernel_rfl) (by decide +kernel))) Cmp2.eq rfl) zOP)
 refine WS.cons ?_ ?_
 ·refine zOM ?_ (WS.cons (W1.assign (i:=8) (zOG (zOB (i:=8) rfl rfl) (zOC zOE) Op2.add) rfl (fun _x=>rfl)) zOF) zOF;refine zOZ ?_;exact zON (zOD (zOB (i:=8) rfl rfl) (zOB (i:=6) rfl rfl) Cmp2.lt rfl) (zON (zOD (zOC (WE.sub (zOB (i:=0) rfl rfl) (zOB (i:=8) rfl rfl) (fun _x _x=>rfl))) (zOC (zks (l:=[93]) (by kernel_rfl) (by decide +kernel))) Cmp2.eq rfl) zOP)
 refine WS.cons ?_ ?_
 ·refine zOS (N:=100000) ?_ (WS.cons (W1.assign (i:=8) (zOG (zOB (i:=8) rfl rfl) (zOC zOE) Op2.add) rfl (fun _x=>rfl)) zOF);refine zOZ ?_;exact zON (zOD (zOB (i:=8) rfl rfl) (zOB (i:=6) rfl rfl) Cmp2.lt rfl) (zON (zOD (zOC (WE.sub (zOB (i:=0) rfl rfl) (zOB (i:=8) rfl rfl) (fun _x _x=>rfl))) (zOC (zks (l:=[93]) (by kernel_rfl) (by decide +kernel))) Cmp2.ne rfl) zOP)
 refine WS.cons ?_ zOF;refine zOM (zOD (zOB (i:=8) rfl rfl) (zOB (i:=6) rfl rfl) zPE rfl) (WS.cons (zOL (a:=4) (z:="res") (r:=3) (zks (l:=[92,91]) (by kernel_rfl) (by decide +kernel)) rfl rfl rfl (by decide)) zOF) ?_;refine WS.cons (W1.assign (i:=9) (zOJ (zOB (i:=0) rfl rfl) (WO.some (zOH (i:=5) rfl rfl)) (WO.some (zOH (i:=8) rfl rfl))) rfl (fun _x=>rfl)) ?_;refine WS.cons ?_ ?_
 ·refine zOM (zOD (zOC (zks (l:=[45]) (by kernel_rfl) (by decide +kernel))) (zOB (i:=9) rfl rfl) zPk rfl) (WS.cons (W1.assign (i:=9) (zQs (c:=92) (z:=[92,92]) (zOB (i:=9) rfl rfl) (by kernel_rfl) (by kernel_rfl) (by decide) (by decide) (by decide +kernel) (fun _x=>rfl) rfl) rfl (fun _x=>rfl)) zOF) ?_;refine WS.cons (zOT (i:=10) (WN.list zOI) rfl (fun _x=>rfl)) ?_;refine WS.cons ?_ ?_
  ·refine W1.assign (i:=11) ?_ rfl (fun _x=>rfl);exact zOQ (zOD (zOC (WE.sub (zOB (i:=0) rfl rfl) (zOB (i:=5) rfl rfl) (fun _x _x=>rfl))) (zOC (zks (l:=[33]) (by kernel_rfl) (by decide +kernel))) Cmp2.eq rfl) (zOG (zOB (i:=5) rfl rfl) (zOC zOE) Op2.add) (zOG (zOB (i:=5) rfl rfl) (zOC zOE) Op2.add)
  refine WS.cons ?_ ?_
  ·refine zOS (N:=100000) (WT.val (zOC zO7) (fun _x _x=>rfl)) ?_;refine WS.cons (W1.assign (i:=11) (zPV zJd (zOB (i:=0) rfl rfl) (zOC (zks (l:=[45]) (by kernel_rfl) (by decide +kernel))) (zOB (i:=11) rfl rfl) (zOB (i:=8) rfl rfl) Op4.find zJW (fun _x=>rfl) rfl rfl rfl rfl) rfl (fun _x=>rfl)) ?_;refine WS.cons (zOM (zOD (zOB (i:=11) rfl rfl) (zOC zOE) Cmp2.lt rfl) (WS.cons W1.br zOF) zOF) ?_;refine WS.cons (W1.append (i:=10) (zOJ (zOB (i:=0) rfl rfl) (WO.some (zOH (i:=5) rfl rfl)) (WO.some (zOH (i:=11) rfl rfl))) rfl rfl (by decide) rfl) ?_;exact WS.cons (W1.assign (i:=5) (zOG (zOB (i:=11) rfl rfl) (zOC zOE) Op2.add) rfl (fun _x=>rfl)) (WS.cons (W1.assign (i:=11) (zOG (zOB (i:=11) rfl rfl) (zOC zOE) Op2.add) rfl (fun _x=>rfl)) zOF)
  refine WS.cons (W1.assign (i:=12) (zOJ (zOB (i:=0) rfl rfl) (WO.some (zOH (i:=5) rfl rfl)) (WO.some (zOH (i:=8) rfl rfl))) rfl (fun _x=>rfl)) ?_;refine WS.cons ?_ ?_
  ·exact zOM (WT.val (zOB (i:=12) rfl rfl) (fun _x _x=>rfl)) (WS.cons (W1.append (i:=10) (zOH (i:=12) rfl rfl) rfl rfl (by decide) rfl) zOF) (WS.cons (zP0 (i:=10) (zOC (WE.ne (zOC zOE))) (zOC (zks (l:=[45]) (by kernel_rfl) (by decide +kernel))) rfl (fun _x _x _x=>rfl) (by decide)) zOF)
  refine WS.cons ?_ (WS.cons (W1.assign (i:=9) (WE.joinGen (sepL:=[45]) hG hgen hcode hkg rfl (by decide) (zOB (i:=10) rfl rfl) (QStr.replace (c:=45) (z:=[92,45]) (QStr.replace (c:=92) (z:=[92,92]) (QStr.name rfl rfl (by decide)) (by kernel_rfl) (by kernel_rfl) (by decide) (by decide) (by decide +kernel) (fun _x=>rfl) rfl) (by kernel_rfl) (by kernel_rfl) (by decide) (by decide) (by decide +kernel) (fun _x=>rfl) rfl) rfl (fun _x=>rfl) (by decide) rfl rfl rfl (fun _x _x=>rfl) (fun _x=>rfl) rfl) rfl (fun _x=>rfl)) zOF);refine zPZ ?_ (WTg.name (i:=11) rfl) ?_ (fun _x _x=>rfl)
  ·exact zO5 B rfl (zOC (zOG (zOC (zOO hG rfl B.len (by intro a h;cases h) (zOB (i:=10) rfl rfl) Op1.len rfl (by decide))) (zOC zOE) Op2.sub)) (zOC zOE) (zOC (WE.ne (zOC zOE))) rfl rfl rfl
  refine WS.cons ?_ zOF;refine zOM ?_ ?_ zOF
  ·refine zOD ?_ (zOC (WE.sub (zOC (WE.sub (zOB (i:=10) rfl rfl) (zOB (i:=11) rfl rfl) (fun _x _x=>rfl))) (zOC zOE) (fun _x _x=>rfl))) zPD rfl;refine zOC ?_;exact WE.sub (zOC (WE.sub (zOB (i:=10) rfl rfl) (zOC (zOG (zOB (i:=11) rfl rfl) (zOC zOE) Op2.sub)) (fun _x _x=>rfl))) (zOC (WE.ne (zOC zOE))) (fun _x _x=>rfl)
  refine WS.cons ?_ (WS.cons (W1.del (i:=10) (zOB (i:=11) rfl rfl) rfl (by decide)) zOF);refine zPH (i:=10) ?_ (zOC (zOG (zOB (i:=11) rfl rfl) (zOC zOE) Op2.sub)) rfl (fun _x=>rfl) (by decide);refine zOG ?_ (zOC (zOJ (zOC (WE.sub (zOB (i:=10) rfl rfl) (zOB (i:=11) rfl rfl) (fun _x _x=>rfl))) (WO.some zOE) zPe)) Op2.add;refine zOC ?_;exact zOJ (zOC (WE.sub (zOB (i:=10) rfl rfl) (zOC (zOG (zOB (i:=11) rfl rfl) (zOC zOE) Op2.sub)) (fun _x _x=>rfl))) zPe (WO.some (WE.ne (zOC zOE)))
 refine WS.cons (W1.assign (i:=9) (zQd hG hgen hcode hkl hfun rfl hpat (zOB (i:=9) rfl rfl) rfl rfl rfl (by decide)) rfl (fun _x=>rfl)) ?_;refine WS.cons (W1.assign (i:=5) (zOG (zOB (i:=8) rfl rfl) (zOC zOE) Op2.add) rfl (fun _x=>rfl)) ?_;refine WS.cons ?_ zOF;refine zOM (zQr (WT.val (zOB (i:=9) rfl rfl) (fun _x _x=>rfl))) (WS.cons (zOL (a:=4) (z:="res") (r:=3) (zks (l:=[40,63,33,41]) (by kernel_rfl) (by decide +kernel)) rfl rfl rfl (by decide)) zOF) ?_;refine WS.cons ?_ zOF;refine zOM (zOD (zOB (i:=9) rfl rfl) (zOC (zks (l:=[33]) (by kernel_rfl) (by decide +kernel))) Cmp2.eq rfl) (WS.cons (zOL (a:=4) (z:="res") (r:=3) (zks (l:=[46]) (by kernel_rfl) (by decide +kernel)) rfl rfl rfl (by decide)) zOF) ?_;refine WS.cons ?_ (WS.cons (zOL (a:=4) (z:="res") (r:=3) (zPt (WF.cons (zks (l:=[91]) (by kernel_rfl) (by decide +kernel)) (WF.cons (zQv (zOH (i:=9) rfl rfl)) (WF.cons (zks (l:=[93]) (by kernel_rfl) (by decide +kernel)) WF.ni)))) rfl rfl rfl (by decide)) zOF);refine zOM (zOD (zOC (WE.sub (zOB (i:=9) rfl rfl) (zOC zOE) (fun _x _x=>rfl))) (zOC (zks (l:=[33]) (by kernel_rfl) (by decide +kernel))) Cmp2.eq rfl) (WS.cons (W1.assign (i:=9) (zOG (zOC (zks (l:=[94]) (by kernel_rfl) (by decide +kernel))) (zOC (zOJ (zOB (i:=9) rfl rfl) (WO.some zOE) zPe)) Op2.add) rfl (fun _x=>rfl)) zOF) ?_;refine WS.cons ?_ zOF;refine zOM ?_ (WS.cons (W1.assign (i:=9) (zOG (zOC (zks (l:=[92]) (by kernel_rfl) (by decide +kernel))) (zOB (i:=9) rfl rfl) Op2.add) rfl (fun _x=>rfl)) zOF) zOF;exact zOD (zOC (WE.sub (zOB (i:=9) rfl rfl) (zOC zOE) (fun _x _x=>rfl))) (zOC (zOK (WA.cons (zks (l:=[94]) (by kernel_rfl) (by decide +kernel)) (WA.cons (zks (l:=[91]) (by kernel_rfl) (by decide +kernel)) zOI rfl) rfl))) zO2 rfl
theorem zLg {g:GC}{j:Nat}(hG:GOk g)(B:Bs g):WS g j (mkFS (zAd pw "_join_translated_parts") zGr none) (bodyOf pw "_join_translated_parts") zH3:=by
 refine WS.cons (zOT (i:=2) (WN.list zOI) rfl (fun _x=>rfl)) ?_;refine WS.cons (zPj (a:=3) (r:=2) rfl rfl (by decide)) ?_;refine WS.cons (zO6 (xs:=["i","n"]) (is:=[4,5]) (zO0 zOE (zO0 (zOO hG rfl B.len (by intro a h;cases h) (zOB (i:=0) rfl rfl) Op1.len rfl (by decide)) zPf rfl) rfl) (.cons rfl (.cons rfl .nil)) (fun env hE=>by rw[zAr hE];rfl)) ?_;refine WS.cons ?_ ?_
 ·refine zOS (N:=100000) ?_ (WS.cons (zOL (a:=3) (z:="res") (r:=2) (WE.sub (zOB (i:=0) rfl rfl) (zOB (i:=4) rfl rfl) (fun _x _x=>rfl)) rfl rfl rfl (by decide)) (WS.cons (zPa (i:=4) (zOC zOE) rfl) zOF));exact zOZ (zON (zOD (zOB (i:=4) rfl rfl) (zOB (i:=5) rfl rfl) Cmp2.lt rfl) (zON (zOD (zOC (WE.sub (zOB (i:=0) rfl rfl) (zOB (i:=4) rfl rfl) (fun _x _x=>rfl))) (zOB (i:=1) rfl rfl) zO4 rfl) zOP))
 refine WS.cons ?_ ?_
 ·refine zOS (N:=100000) (zOD (zOB (i:=4) rfl rfl) (zOB (i:=5) rfl rfl) Cmp2.lt rfl) ?_;refine WS.cons (zPl (zOD (zOC (WE.sub (zOB (i:=0) rfl rfl) (zOB (i:=4) rfl rfl) (fun _x _x=>rfl))) (zOB (i:=1) rfl rfl) Cmp2.is rfl)) ?_;refine WS.cons (zPa (i:=4) (zOC zOE) rfl) ?_;refine WS.cons (zOM (zOD (zOB (i:=4) rfl rfl) (zOB (i:=5) rfl rfl) Cmp2.eq rfl) (WS.cons (zOL (a:=3) (z:="res") (r:=2) (zks (l:=[46,42]) (by kernel_rfl) (by decide +kernel)) rfl rfl rfl (by decide)) (WS.cons W1.br zOF)) zOF) ?_;refine WS.cons (zPl (zOD (zOC (WE.sub (zOB (i:=0) rfl rfl) (zOB (i:=4) rfl rfl) (fun _x _x=>rfl))) (zOB (i:=1) rfl rfl) zO4 rfl)) ?_;refine WS.cons (zOT (i:=6) (WN.list zOI) rfl (fun _x=>rfl)) ?_;refine WS.cons ?_ ?_
  ·refine zOS (N:=100000) ?_ (WS.cons (W1.append (i:=6) (WE.sub (zOB (i:=0) rfl rfl) (zOB (i:=4) rfl rfl) (fun _x _x=>rfl)) rfl rfl (by decide) rfl) (WS.cons (zPa (i:=4) (zOC zOE) rfl) zOF));exact zOZ (zON (zOD (zOB (i:=4) rfl rfl) (zOB (i:=5) rfl rfl) Cmp2.lt rfl) (zON (zOD (zOC (WE.sub (zOB (i:=0) rfl rfl) (zOB (i:=4) rfl rfl) (fun _x _x=>rfl))) (zOB (i:=1) rfl rfl) zO4 rfl) zOP))
  refine WS.cons (W1.assign (i:=6) (zPn zJc (zOC (zks (l:=[]) (by kernel_rfl) (by decide +kernel))) (zOB (i:=6) rfl rfl) Op2.join zHO (fun _x=>rfl) rfl rfl) rfl (fun _x=>rfl)) ?_;refine WS.cons ?_ zOF;exact zOM (zOD (zOB (i:=4) rfl rfl) (zOB (i:=5) rfl rfl) Cmp2.eq rfl) (WS.cons (zOL (a:=3) (z:="res") (r:=2) (zks (l:=[46,42]) (by kernel_rfl) (by decide +kernel)) rfl rfl rfl (by decide)) (WS.cons (zOL (a:=3) (z:="res") (r:=2) (zOH (i:=6) rfl rfl) rfl rfl rfl (by decide)) zOF)) (WS.cons (zOL (a:=3) (z:="res") (r:=2) (zPt (WF.cons (zks (l:=[40,63,62,46,42,63]) (by kernel_rfl) (by decide +kernel)) (WF.cons (zQv (zOH (i:=6) rfl rfl)) (WF.cons (zks (l:=[41]) (by kernel_rfl) (by decide +kernel)) WF.ni)))) rfl rfl rfl (by decide)) zOF)
 refine WS.cons (zPl (zOD (zOB (i:=4) rfl rfl) (zOB (i:=5) rfl rfl) Cmp2.eq rfl)) ?_;exact WS.cons (W1.assign (i:=2) (zPn zJc (zOC (zks (l:=[]) (by kernel_rfl) (by decide +kernel))) (zOB (i:=2) rfl rfl) Op2.join zHO (fun _x=>rfl) rfl rfl) rfl (fun _x=>rfl)) (WS.cons (zO1 (zPt (WF.cons (zks (l:=[40,63,115,58]) (by kernel_rfl) (by decide +kernel)) (WF.cons (zQv (zOH (i:=2) rfl rfl)) (WF.cons (zks (l:=[41,92,90]) (by kernel_rfl) (by decide +kernel)) WF.ni))))) zOF)
theorem zJY {g:GC}{j:Nat}(hG:GOk g)(B:Bs g)(h_tr:FnOk g j "_translate" zET)(h_jn:FnOk g j "_join_translated_parts" zH2):WS g j (mkFS (zAd pw "translate") zES none) (bodyOf pw "translate") zG3:=by
 refine WS.cons (zPY B (i:=1) rfl rfl) ?_;exact WS.cons (W1.assign (i:=2) (zOR hG rfl h_tr (WA.cons (zOH (i:=0) rfl rfl) (WA.cons (zOH (i:=1) rfl rfl) (WA.cons (zks (l:=[46]) (by kernel_rfl) (by decide +kernel)) zOI rfl) rfl) rfl) rfl (fun _x=>rfl) (by decide)) rfl (fun _x=>rfl)) (WS.cons (zO1 (zOR hG rfl h_jn (WA.cons (zOH (i:=2) rfl rfl) (WA.cons (zOH (i:=1) rfl rfl) zOI rfl) rfl) rfl (fun _x=>rfl) (by decide))) zOF)
theorem zHa {g:GC}{j:Nat}(hG:GOk g)(B:Bs g):WS g j (mkFS (zAd pw "_law_drawn") zDz none) (bodyOf pw "_law_drawn") zCO:=by
 refine WS.cons ?_ ?_
 ·refine W1.assign (i:=1) ?_ rfl (fun _x=>rfl);refine WE.list ?_;refine WA.cons (zks (l:=[42]) (by kernel_rfl) (by decide +kernel)) ?_ rfl;refine WA.cons (zks (l:=[63]) (by kernel_rfl) (by decide +kernel)) ?_ rfl;refine WA.cons (zks (l:=[91]) (by kernel_rfl) (by decide +kernel)) ?_ rfl;refine WA.cons (zks (l:=[93]) (by kernel_rfl) (by decide +kernel)) ?_ rfl;refine WA.cons (zks (l:=[97]) (by kernel_rfl) (by decide +kernel)) ?_ rfl;refine WA.cons (zks (l:=[91,98,45,97,33]) (by kernel_rfl) (by decide +kernel)) ?_ rfl;refine WA.cons (zks (l:=[45]) (by kernel_rfl) (by decide +kernel)) ?_ rfl;refine WA.cons (zks (l:=[33]) (by kernel_rfl) (by decide +kernel)) ?_ rfl;refine WA.cons (zks (l:=[98]) (by kernel_rfl) (by decide +kernel)) ?_ rfl;refine WA.cons (zks (l:=[91,33]) (by kernel_rfl) (by decide +kernel)) ?_ rfl;refine WA.cons (zks (l:=[97,45,99]) (by kernel_rfl) (by decide +kernel)) ?_ rfl;refine WA.cons (zks (l:=[99,45,97]) (by kernel_rfl) (by decide +kernel)) ?_ rfl;refine WA.cons (zks (l:=[91,93]) (by kernel_rfl) (by decide +kernel)) ?_ rfl;refine WA.cons (zks (l:=[92]) (by kernel_rfl) (by decide +kernel)) ?_ rfl;refine WA.cons (zks (l:=[94]) (by kernel_rfl) (by decide +kernel)) ?_ rfl;exact WA.cons (zks (l:=[46]) (by kernel_rfl) (by decide +kernel)) (WA.cons (zks (l:=[124]) (by kernel_rfl) (by decide +kernel)) (WA.cons (zks (l:=[10]) (by kernel_rfl) (by decide +kernel)) (WA.cons (zks (l:=[]) (by kernel_rfl) (by decide +kernel)) (WA.cons (zks (l:=[93]) (by kernel_rfl) (by decide +kernel)) (WA.cons (zks (l:=[42]) (by kernel_rfl) (by decide +kernel)) zOI rfl) rfl) rfl) rfl) rfl) rfl
 refine WS.cons (zPu (is:=[3,4]) (zO0 (zks (l:=[]) (by kernel_rfl) (by decide +kernel)) (zO0 (zks (l:=[]) (by kernel_rfl) (by decide +kernel)) zPf rfl) rfl) (.cons rfl (.cons rfl .nil)) (fun env hE=>by rw[zAr hE];rfl)) ?_;refine WS.cons ?_ (WS.cons (zO1 (zOK (WA.cons (zOH (i:=3) rfl rfl) (WA.cons (zOH (i:=4) rfl rfl) zOI rfl) rfl))) zOF);refine zPZ ?_ (WTg.name (i:=2) rfl) ?_ (fun _x _x=>rfl)
 ·refine zOV ?_;refine zOQ (zOD (zOC (zOO hG rfl B.len (by intro a h;cases h) (zOB (i:=0) rfl rfl) Op1.len rfl (by decide))) (zOC zOE) zPD rfl) (zOH (i:=0) rfl rfl) ?_;exact zOG (zOB (i:=0) rfl rfl) (zOC (WE.list (WA.cons zOE (WA.cons zOE (WA.cons zOE (WA.cons zOE zOI rfl) rfl) rfl) rfl))) Op2.add
 refine WS.cons (W1.assign (i:=5) (zOG (zOC (zOG (zOB (i:=2) rfl rfl) (zOC zOE) Op2.fdiv)) (zOC zOE) Op2.mod) rfl (fun _x=>rfl)) ?_;refine WS.cons ?_ ?_
 ·exact W1.assign (i:=6) (zOO hG rfl B.chr (by intro a h;cases h) (zOC (zOQ (zOD (zOB (i:=5) rfl rfl) (zOC zOE) Cmp2.lt rfl) (zOH (i:=5) rfl rfl) (zOG (zOB (i:=5) rfl rfl) (zOC zOE) Op2.add))) Op1.chr rfl (by decide)) rfl (fun _x=>rfl)
 refine WS.cons ?_ ?_
 ·refine W1.assign (i:=7) ?_ rfl (fun _x=>rfl);exact WE.sub (zOC (zOG (zOB (i:=1) rfl rfl) (zOC (WE.list (WA.cons (zOH (i:=6) rfl rfl) zOI rfl))) Op2.add)) (zOC (zOG (zOB (i:=2) rfl rfl) (zOC zOE) Op2.mod)) (fun _x _x=>rfl)
 refine WS.cons (zPa (i:=3) (zOB (i:=7) rfl rfl) rfl) ?_;refine WS.cons ?_ zOF;refine zPa (i:=4) ?_ rfl;refine zOC ?_;refine WE.sub ?_ (zOC (zOG (zOC (zOG (zOB (i:=2) rfl rfl) (zOC zOE) Op2.fdiv)) (zOC zOE) Op2.mod)) (fun _x _x=>rfl);refine zOC ?_;refine WE.list ?_;exact WA.cons (zOJ (zOB (i:=7) rfl rfl) (WO.some (WE.ne (zOC zOE))) zPe) (WA.cons (zks (l:=[97]) (by kernel_rfl) (by decide +kernel)) (WA.cons (zks (l:=[]) (by kernel_rfl) (by decide +kernel)) (WA.cons (zks (l:=[10]) (by kernel_rfl) (by decide +kernel)) (WA.cons (zOH (i:=6) rfl rfl) zOI rfl) rfl) rfl) rfl) rfl
theorem zFJ {g:GC}{j:Nat}(hG:GOk g)(B:Bs g):WS g j (mkFS (zAd pw "_law_bracket") zB9 none) (bodyOf pw "_law_bracket") zBH:=by
 refine WS.cons ?_ ?_
 ·refine zO6 (xs:=["barred","pairs","k"]) (is:=[1,2,3]) ?_ (.cons rfl (.cons rfl (.cons rfl .nil))) (fun env hE=>by rw[zAr hE];rfl);exact zO0 (zO9 (zOC (WE.sub (zOB (i:=0) rfl rfl) (zOC zOE) (fun _x _x=>rfl))) (zOC (zks (l:=[33]) (by kernel_rfl) (by decide +kernel))) Cmp2.eq rfl) (WB.ow (WN.list zOI) (zO0 zOE zPf rfl) rfl) rfl
 refine WS.cons (W1.assign (i:=0) (zOJ (zOB (i:=0) rfl rfl) (WO.some (zOQ (WT.val (zOB (i:=1) rfl rfl) (fun _x _x=>rfl)) zOE zOE)) zPe) rfl (fun _x=>rfl)) ?_;refine WS.cons ?_ (WS.cons (zPo 2 (zO1 (zOK (WA.cons (zOH (i:=1) rfl rfl) (WA.cons (zOH (i:=2) rfl rfl) zOI rfl) rfl)))) zOF);refine zOS (N:=100000) (zOD (zOB (i:=3) rfl rfl) (zOC (zOO hG rfl B.len (by intro a h;cases h) (zOB (i:=0) rfl rfl) Op1.len rfl (by decide))) Cmp2.lt rfl) ?_;refine WS.cons ?_ ?_
 ·refine W1.assign (i:=4) ?_ rfl (fun _x=>rfl);refine zOQ ?_ zOE zOE;refine zOZ ?_;refine zON ?_ (zON (zOD (zOC (zOG (zOB (i:=3) rfl rfl) (zOC zOE) Op2.add)) (zOC (zOO hG rfl B.len (by intro a h;cases h) (zOB (i:=0) rfl rfl) Op1.len rfl (by decide))) Cmp2.lt rfl) zOP);refine zOD ?_ (zOC (zks (l:=[45]) (by kernel_rfl) (by decide +kernel))) Cmp2.eq rfl;exact zOC (zOJ (zOB (i:=0) rfl rfl) (WO.some (zOG (zOB (i:=3) rfl rfl) (zOC zOE) Op2.add)) (WO.some (zOG (zOB (i:=3) rfl rfl) (zOC zOE) Op2.add)))
 refine WS.cons ?_ ?_
 ·exact zO6 (xs:=["low","high"]) (is:=[5,6]) (zO0 (WE.sub (zOB (i:=0) rfl rfl) (zOB (i:=3) rfl rfl) (fun _x _x=>rfl)) (zO0 (WE.sub (zOB (i:=0) rfl rfl) (zOC (zOG (zOB (i:=3) rfl rfl) (zOB (i:=4) rfl rfl) Op2.add)) (fun _x _x=>rfl)) zPf rfl) rfl) (.cons rfl (.cons rfl .nil)) (fun env hE=>by rw[zAr hE];rfl)
 refine WS.cons ?_ (WS.cons (zPa (i:=3) (zOC (zOG (zOB (i:=4) rfl rfl) (zOC zOE) Op2.add)) rfl) zOF);refine zOM ?_ ?_ ?_
 ·refine zOZ ?_;refine zON (zOD (zOB (i:=5) rfl rfl) (zOC (zks (l:=[33]) (by kernel_rfl) (by decide +kernel))) Cmp2.eq rfl) ?_;exact zON (zOD (zOB (i:=6) rfl rfl) (zOB (i:=5) rfl rfl) zPE rfl) (zON (zOD (zOB (i:=2) rfl rfl) (zOC (WE.list zOI)) Cmp2.eq rfl) (zON (zQr (WT.val (zOB (i:=1) rfl rfl) (fun _x _x=>rfl))) zOP))
 ·refine WS.cons (W1.assign (i:=1) zO7 rfl (fun _x=>rfl)) ?_;refine WS.cons ?_ zOF;refine zOT (i:=2) ?_ rfl (fun _x=>rfl);refine WN.ite (zOD (zOB (i:=4) rfl rfl) (zOC zOE) Cmp2.eq rfl) ?_ (WN.list zOI);refine WN.list ?_;exact WA.cons (zOK (WA.cons (zks (l:=[45]) (by kernel_rfl) (by decide +kernel)) (WA.cons (zks (l:=[45]) (by kernel_rfl) (by decide +kernel)) zOI rfl) rfl)) (WA.cons (zOK (WA.cons (zOH (i:=6) rfl rfl) (WA.cons (zOH (i:=6) rfl rfl) zOI rfl) rfl)) zOI rfl) rfl
 refine WS.cons ?_ zOF;exact zOM (zOD (zOB (i:=6) rfl rfl) (zOB (i:=5) rfl rfl) zPE rfl) (WS.cons (W1.append (i:=2) (zOK (WA.cons (zOH (i:=5) rfl rfl) (WA.cons (zOH (i:=6) rfl rfl) zOI rfl) rfl)) rfl rfl (by decide) rfl) zOF) zOF
theorem zG9 {g:GC}{j:Nat}(hG:GOk g)(B:Bs g)(h_bracket:FnOk g j "_law_bracket" zBG):WS g j (mkFS (zAd pw "_law_items") zDy none) (bodyOf pw "_law_items") zCM:=by
 refine WS.cons (zO6 (xs:=["items","k"]) (is:=[1,2]) (WB.ow (WN.list zOI) (zO0 zOE zPf rfl) rfl) (.cons rfl (.cons rfl .nil)) (fun env hE=>by rw[zAr hE];rfl)) ?_;refine WS.cons ?_ (WS.cons (zPo 1 (zO1 (zOH (i:=1) rfl rfl))) zOF);refine zOS (N:=100000) (zOD (zOB (i:=2) rfl rfl) (zOC (zOO hG rfl B.len (by intro a h;cases h) (zOB (i:=0) rfl rfl) Op1.len rfl (by decide))) Cmp2.lt rfl) ?_;refine WS.cons ?_ ?_
 ·refine W1.assign (i:=3) ?_ rfl (fun _x=>rfl);refine zPW zJd (zOB (i:=0) rfl rfl) (zOC (zks (l:=[93]) (by kernel_rfl) (by decide +kernel))) ?_ Op3.find zJX (fun _x=>rfl) rfl rfl rfl;refine zOC ?_;refine zOG (zOB (i:=2) rfl rfl) ?_ Op2.add;refine zOC ?_;refine zOQ ?_ zOE zOE;refine zOD ?_ (zOC (zks (l:=[33]) (by kernel_rfl) (by decide +kernel))) Cmp2.eq rfl;exact zOC (zOJ (zOB (i:=0) rfl rfl) (WO.some (zOG (zOB (i:=2) rfl rfl) (zOC zOE) Op2.add)) (WO.some (zOG (zOB (i:=2) rfl rfl) (zOC zOE) Op2.add)))
 refine WS.cons ?_ ?_
 ·refine W1.assign (i:=4) ?_ rfl (fun _x=>rfl);refine zOQ (zOD (zOC (WE.sub (zOB (i:=0) rfl rfl) (zOB (i:=2) rfl rfl) (fun _x _x=>rfl))) (zOC (zks (l:=[42]) (by kernel_rfl) (by decide +kernel))) Cmp2.eq rfl) (zks (l:=[42]) (by kernel_rfl) (by decide +kernel)) ?_;refine zOQ (zOD (zOC (WE.sub (zOB (i:=0) rfl rfl) (zOB (i:=2) rfl rfl) (fun _x _x=>rfl))) (zOC (zks (l:=[63]) (by kernel_rfl) (by decide +kernel))) Cmp2.eq rfl) (zOK (WA.cons zO7 (WA.cons (WE.list zOI) zOI rfl) rfl)) ?_;refine zOK ?_;refine WA.cons zO7 ?_ rfl;refine WA.cons ?_ zOI rfl;exact WE.list (WA.cons (zOK (WA.cons (WE.sub (zOB (i:=0) rfl rfl) (zOB (i:=2) rfl rfl) (fun _x _x=>rfl)) (WA.cons (WE.sub (zOB (i:=0) rfl rfl) (zOB (i:=2) rfl rfl) (fun _x _x=>rfl)) zOI rfl) rfl)) zOI rfl)
 refine WS.cons ?_ (WS.cons (W1.append (i:=1) (zOH (i:=4) rfl rfl) rfl rfl (by decide) rfl) (WS.cons (zPa (i:=2) (zOC zOE) rfl) zOF));refine zOM ?_ ?_ zOF
 ·refine zOZ ?_;exact zON (zOD (zOC (WE.sub (zOB (i:=0) rfl rfl) (zOB (i:=2) rfl rfl) (fun _x _x=>rfl))) (zOC (zks (l:=[91]) (by kernel_rfl) (by decide +kernel))) Cmp2.eq rfl) (zON (zOD (zOB (i:=3) rfl rfl) (zOC zOE) zPD rfl) zOP)
 refine WS.cons ?_ zOF;refine zO6 (xs:=["item","k"]) (is:=[4,2]) ?_ (.cons rfl (.cons rfl .nil)) (fun env hE=>by rw[zAr hE];rfl);exact zO0 (zOR hG rfl h_bracket (WA.cons (zOJ (zOB (i:=0) rfl rfl) (WO.some (zOG (zOB (i:=2) rfl rfl) (zOC zOE) Op2.add)) (WO.some (zOH (i:=3) rfl rfl))) zOI rfl) rfl (fun _x=>rfl) (by decide)) (zO0 (zOH (i:=3) rfl rfl) zPf rfl) rfl
theorem zG6 {g:GC}{j:Nat}(hG:GOk g)(B:Bs g):WS g j (mkFS (zAd pw "_law_takes") zDw none) (bodyOf pw "_law_takes") zCJ:=by
 refine WS.cons ?_ zOF;refine zO1 ?_;refine zO9 (zOC (WE.sub (zOB (i:=0) rfl rfl) (zOC zOE) (fun _x _x=>rfl))) ?_ Cmp2.ne rfl;refine zOC ?_;refine zO9 ?_ (zOC (WE.list zOI)) Cmp2.ne rfl;refine zOC ?_;refine zPb ?_;exact WN.comp (L:=[2,3]) (zOV (WE.sub (zOB (i:=0) rfl rfl) (zOC zOE) (fun _x _x=>rfl))) (zAu (l:=[("low",2),("high",3),("sign",1)]) (by rfl)) (WTgL.tuple (is:=[2,3]) (.cons rfl (.cons rfl .nil)) (.cons rfl (.cons rfl .nil))) (zF0 rfl) (WIfs.one (zQc (zOB (i:=2) rfl rfl) (zOB (i:=1) rfl rfl) (zOB (i:=3) rfl rfl) Cmp2.le Cmp2.le rfl)) (zOH (i:=2) rfl rfl) (fun _x _x=>rfl)
theorem zJ4 {g:GC}{j:Nat}(hG:GOk g)(B:Bs g):WS g j (mkFS (zAd pw "_law_one") zEV none) (bodyOf pw "_law_one") zFF:=by
 refine WS.cons ?_ ?_
 ·exact W1.assign (i:=2) (zOJ (zOB (i:=0) rfl rfl) (WO.some (zOG (zOB (i:=1) rfl rfl) (zOC zOE) Op2.add)) (WO.some (zOG (zOB (i:=1) rfl rfl) (zOC zOE) Op2.add))) rfl (fun _x=>rfl)
 refine WS.cons ?_ ?_
 ·refine zOM ?_ ?_ zOF
  ·exact zOD (zOC (zOJ (zOB (i:=0) rfl rfl) (WO.some (zOH (i:=1) rfl rfl)) (WO.some (zOG (zOB (i:=1) rfl rfl) (zOC zOE) Op2.add)))) (zOC (zks (l:=[92]) (by kernel_rfl) (by decide +kernel))) Cmp2.ne rfl
  refine WS.cons ?_ zOF;refine zO1 ?_;refine zOK ?_;exact WA.cons (zOJ (zOB (i:=0) rfl rfl) (WO.some (zOH (i:=1) rfl rfl)) (WO.some (zOG (zOB (i:=1) rfl rfl) (zOC zOE) Op2.add))) (WA.cons (zOG (zOB (i:=1) rfl rfl) (zOC zOE) Op2.add) zOI rfl) rfl
 refine WS.cons ?_ zOF;refine zO1 ?_;refine zOK ?_;exact WA.cons (zOQ (zOD (zOB (i:=2) rfl rfl) (zOC (zks (l:=[48,49,50,51,52,53,54,55,56,57,97,98,99,100,101,102,103,104,105,106,107,108,109,110,111,112,113,114,115,116,117,118,119,120,121,122,65,66,67,68,69,70,71,72,73,74,75,76,77,78,79,80,81,82,83,84,85,86,87,88,89,90]) (by kernel_rfl) (by decide +kernel))) zO2 rfl) (zks (l:=[]) (by kernel_rfl) (by decide +kernel)) (zOH (i:=2) rfl rfl)) (WA.cons (zOG (zOB (i:=1) rfl rfl) (zOC zOE) Op2.add) zOI rfl) rfl
theorem zJ3 {g:GC}{j:Nat}(hG:GOk g)(B:Bs g)(h_one:FnOk g j "_law_one" zCk):WS g j (mkFS (zAd pw "_law_set") zEU none) (bodyOf pw "_law_set") zFE:=by
 refine WS.cons ?_ ?_
 ·refine zO6 (xs:=["barred","pairs"]) (is:=[2,3]) ?_ (.cons rfl (.cons rfl .nil)) (fun env hE=>by rw[zAr hE];rfl);refine zO0 ?_ (WB.ow (WN.list zOI) zPf rfl) rfl;exact zO9 (zOC (zOJ (zOB (i:=0) rfl rfl) (WO.some (zOH (i:=1) rfl rfl)) (WO.some (zOG (zOB (i:=1) rfl rfl) (zOC zOE) Op2.add)))) (zOC (zks (l:=[94]) (by kernel_rfl) (by decide +kernel))) Cmp2.eq rfl
 refine WS.cons (zPa (i:=1) (zOC (zOQ (WT.val (zOB (i:=2) rfl rfl) (fun _x _x=>rfl)) zOE zOE)) rfl) ?_;refine WS.cons ?_ ?_
 ·refine zOS (N:=100000) ?_ ?_
  ·refine zPG ?_;refine zOX ?_ (zOX (zOD (zOB (i:=3) rfl rfl) (zOC (WE.list zOI)) Cmp2.eq rfl) zO3);exact zOD (zOC (zOJ (zOB (i:=0) rfl rfl) (WO.some (zOH (i:=1) rfl rfl)) (WO.some (zOG (zOB (i:=1) rfl rfl) (zOC zOE) Op2.add)))) (zOC (zks (l:=[93]) (by kernel_rfl) (by decide +kernel))) Cmp2.ne rfl
  refine WS.cons (zO8 (zOR hG rfl h_one (WA.cons (zOH (i:=0) rfl rfl) (WA.cons (zOH (i:=1) rfl rfl) zOI rfl) rfl) rfl (fun _x=>rfl) (by decide)) (WTg.tuple (is:=[5,1]) (.cons rfl (.cons rfl .nil))) (fun _x=>rfl) (fun _x=>rfl)) ?_;refine WS.cons (W1.assign (i:=4) (zOH (i:=5) rfl rfl) rfl (fun _x=>rfl)) ?_;refine WS.cons ?_ ?_
  ·refine zOM ?_ ?_ zOF
   ·refine zOZ ?_;refine zON ?_ ?_
    ·exact zOD (zOC (zOJ (zOB (i:=0) rfl rfl) (WO.some (zOH (i:=1) rfl rfl)) (WO.some (zOG (zOB (i:=1) rfl rfl) (zOC zOE) Op2.add)))) (zOC (zks (l:=[45]) (by kernel_rfl) (by decide +kernel))) Cmp2.eq rfl
    refine zON ?_ zOP;refine zOD ?_ (zOC (zks (l:=[93]) (by kernel_rfl) (by decide +kernel))) Cmp2.ne rfl;exact zOC (zOJ (zOB (i:=0) rfl rfl) (WO.some (zOG (zOB (i:=1) rfl rfl) (zOC zOE) Op2.add)) (WO.some (zOG (zOB (i:=1) rfl rfl) (zOC zOE) Op2.add)))
   exact WS.cons (zO8 (zOR hG rfl h_one (WA.cons (zOH (i:=0) rfl rfl) (WA.cons (zOG (zOB (i:=1) rfl rfl) (zOC zOE) Op2.add) zOI rfl) rfl) rfl (fun _x=>rfl) (by decide)) (WTg.tuple (is:=[4,1]) (.cons rfl (.cons rfl .nil))) (fun _x=>rfl) (fun _x=>rfl)) zOF
  refine WS.cons ?_ (WS.cons (W1.append (i:=3) (zOK (WA.cons (zOH (i:=5) rfl rfl) (WA.cons (zOH (i:=4) rfl rfl) zOI rfl) rfl)) rfl rfl (by decide) rfl) zOF);exact zOM (zPG (zOX (zOD (zOB (i:=5) rfl rfl) (zOC (zks (l:=[]) (by kernel_rfl) (by decide +kernel))) Cmp2.eq rfl) (zOX (zOD (zOB (i:=4) rfl rfl) (zOB (i:=5) rfl rfl) Cmp2.lt rfl) zO3))) (WS.cons (zO1 (zOK (WA.cons zPX (WA.cons (zOH (i:=1) rfl rfl) zOI rfl) rfl))) zOF) zOF
 refine WS.cons ?_ zOF;refine zPo 3 ?_;refine zO1 ?_;refine zOK ?_;exact WA.cons (zOK (WA.cons (zOH (i:=2) rfl rfl) (WA.cons (zOH (i:=3) rfl rfl) zOI rfl) rfl)) (WA.cons (zOG (zOB (i:=1) rfl rfl) (zOC zOE) Op2.add) zOI rfl) rfl
theorem zG7 {g:GC}{j:Nat}(hG:GOk g)(B:Bs g)(h_set:FnOk g j "_law_set" zFD)(h_one:FnOk g j "_law_one" zCk):WS g j (mkFS (zAd pw "_law_steps") zDx none) (bodyOf pw "_law_steps") zCK:=by
 refine WS.cons ?_ ?_
 ·refine W1.assign (i:=1) ?_ rfl (fun _x=>rfl);refine WE.list ?_;refine WA.cons (zOK (WA.cons (zks (l:=[40,63,62]) (by kernel_rfl) (by decide +kernel)) (WA.cons (zks (l:=[104,111,108,100]) (by kernel_rfl) (by decide +kernel)) zOI rfl) rfl)) ?_ rfl;refine WA.cons (zOK (WA.cons (zks (l:=[41]) (by kernel_rfl) (by decide +kernel)) (WA.cons (zks (l:=[102,114,101,101]) (by kernel_rfl) (by decide +kernel)) zOI rfl) rfl)) ?_ rfl;refine WA.cons (zOK (WA.cons (zks (l:=[46,42,63]) (by kernel_rfl) (by decide +kernel)) (WA.cons (zks (l:=[108,101,97,115,116]) (by kernel_rfl) (by decide +kernel)) zOI rfl) rfl)) ?_ rfl;refine WA.cons (zOK (WA.cons (zks (l:=[46,42]) (by kernel_rfl) (by decide +kernel)) (WA.cons (zks (l:=[109,111,115,116]) (by kernel_rfl) (by decide +kernel)) zOI rfl) rfl)) ?_ rfl;refine WA.cons (zOK (WA.cons (zks (l:=[40,63,33,41]) (by kernel_rfl) (by decide +kernel)) (WA.cons (zOK (WA.cons zO7 (WA.cons (WE.list zOI) zOI rfl) rfl)) zOI rfl) rfl)) ?_ rfl;exact WA.cons (zOK (WA.cons (zks (l:=[46]) (by kernel_rfl) (by decide +kernel)) (WA.cons (zOK (WA.cons zO7 (WA.cons (WE.list zOI) zOI rfl) rfl)) zOI rfl) rfl)) zOI rfl
 refine WS.cons (zPu (is:=[3,4]) (WB.ow (WN.list zOI) (zO0 zOE zPf rfl) rfl) (.cons rfl (.cons rfl .nil)) (fun env hE=>by rw[zAr hE];rfl)) ?_;refine WS.cons ?_ ?_
 ·refine zOS (N:=100000) (zOD (zOB (i:=4) rfl rfl) (zOC (zOO hG rfl B.len (by intro a h;cases h) (zOB (i:=0) rfl rfl) Op1.len rfl (by decide))) Cmp2.lt rfl) ?_;refine WS.cons ?_ ?_
  ·refine W1.comp (i:=5) false (L:=[10]) (zOV (zOH (i:=1) rfl rfl)) (zAu (l:=[("pair",10),("text",0),("k",4)]) (by rfl)) (WTgL.name (i:=10) rfl rfl) (zB7 (by decide)) ?_ (zOH (i:=10) rfl rfl) rfl rfl rfl rfl (fun _x _x=>rfl);refine WIfs.one ?_;refine zOD ?_ (zOC (WE.sub (zOB (i:=10) rfl rfl) (zOC zOE) (fun _x _x=>rfl))) Cmp2.eq rfl;refine zOC ?_;exact zOJ (zOB (i:=0) rfl rfl) (WO.some (zOH (i:=4) rfl rfl)) (WO.some (zOG (zOB (i:=4) rfl rfl) (zOC (zOO hG rfl B.len (by intro a h;cases h) (zOC (WE.sub (zOB (i:=10) rfl rfl) (zOC zOE) (fun _x _x=>rfl))) Op1.len rfl (by decide))) Op2.add))
  refine WS.cons ?_ (WS.cons (W1.append (i:=3) (zOH (i:=6) rfl rfl) rfl rfl (by decide) rfl) zOF);refine zOM (zOD (zOB (i:=5) rfl rfl) (zOC (WE.list zOI)) Cmp2.ne rfl) ?_ ?_
  ·refine WS.cons ?_ zOF;refine zPu (is:=[6,4]) ?_ (.cons rfl (.cons rfl .nil)) (fun env hE=>by rw[zAr hE];rfl);refine zO0 (WE.sub (zOC (WE.sub (zOB (i:=5) rfl rfl) (zOC zOE) (fun _x _x=>rfl))) (zOC zOE) (fun _x _x=>rfl)) ?_ rfl;refine zO0 ?_ zPf rfl;exact zOG (zOB (i:=4) rfl rfl) (zOC (zOO hG rfl B.len (by intro a h;cases h) (zOC (WE.sub (zOC (WE.sub (zOB (i:=5) rfl rfl) (zOC zOE) (fun _x _x=>rfl))) (zOC zOE) (fun _x _x=>rfl))) Op1.len rfl (by decide))) Op2.add
  refine WS.cons ?_ zOF;refine zOM (zOD (zOC (WE.sub (zOB (i:=0) rfl rfl) (zOB (i:=4) rfl rfl) (fun _x _x=>rfl))) (zOC (zks (l:=[91]) (by kernel_rfl) (by decide +kernel))) Cmp2.eq rfl) ?_ ?_
  ·exact WS.cons (zO8 (zOR hG rfl h_set (WA.cons (zOH (i:=0) rfl rfl) (WA.cons (zOG (zOB (i:=4) rfl rfl) (zOC zOE) Op2.add) zOI rfl) rfl) rfl (fun _x=>rfl) (by decide)) (WTg.tuple (is:=[6,4]) (.cons rfl (.cons rfl .nil))) (fun _x=>rfl) (fun _x=>rfl)) zOF
  refine WS.cons (W1.assign (i:=7) (zO9 (zOC (WE.sub (zOB (i:=0) rfl rfl) (zOB (i:=4) rfl rfl) (fun _x _x=>rfl))) (zOC (zks (l:=[94,36,42,43,63,123,125,124,40,93]) (by kernel_rfl) (by decide +kernel))) zO2 rfl) rfl (fun _x=>rfl)) ?_;refine WS.cons (zO8 (zOR hG rfl h_one (WA.cons (zOH (i:=0) rfl rfl) (WA.cons (zOH (i:=4) rfl rfl) zOI rfl) rfl) rfl (fun _x=>rfl) (by decide)) (WTg.tuple (is:=[8,4]) (.cons rfl (.cons rfl .nil))) (fun _x=>rfl) (fun _x=>rfl)) ?_;refine WS.cons ?_ zOF;refine W1.assign (i:=6) ?_ rfl (fun _x=>rfl);refine zOQ (zPG (zOX (zOD (zOB (i:=8) rfl rfl) (zOC (zks (l:=[]) (by kernel_rfl) (by decide +kernel))) Cmp2.eq rfl) (zOX (WT.val (zOB (i:=7) rfl rfl) (fun _x _x=>rfl)) zO3))) zPX ?_;refine zOK ?_;exact WA.cons zO7 (WA.cons (WE.list (WA.cons (zOK (WA.cons (zOH (i:=8) rfl rfl) (WA.cons (zOH (i:=8) rfl rfl) zOI rfl) rfl)) zOI rfl)) zOI rfl) rfl
 refine WS.cons ?_ ?_
 ·refine zPo 3 ?_;exact W1.comp (i:=2) false (L:=[9]) (zOV (zOH (i:=3) rfl rfl)) (zAu (l:=[("step",9)]) (by rfl)) (WTgL.name (i:=9) rfl rfl) (zB7 (by decide)) (WIfs.one (zOD (zOB (i:=9) rfl rfl) (zOC (zOK (WA.cons (zks (l:=[104,111,108,100]) (by kernel_rfl) (by decide +kernel)) (WA.cons (zks (l:=[102,114,101,101]) (by kernel_rfl) (by decide +kernel)) zOI rfl) rfl))) zO2 rfl)) (zOH (i:=9) rfl rfl) rfl rfl rfl rfl (fun _x _x=>rfl)
 refine WS.cons ?_ zOF;refine zO1 ?_;refine zOQ ?_ (zOH (i:=3) rfl rfl) zPX;refine zOZ ?_;refine zON ?_ (zON (zOD (zOC zPX) (zOB (i:=3) rfl rfl) zPk rfl) zOP);refine zOD (zOB (i:=2) rfl rfl) ?_ Cmp2.eq rfl;refine zOC ?_;exact zOG (zOC (WE.list (WA.cons (zks (l:=[104,111,108,100]) (by kernel_rfl) (by decide +kernel)) (WA.cons (zks (l:=[102,114,101,101]) (by kernel_rfl) (by decide +kernel)) zOI rfl) rfl))) (zOC (zOG (zOC (zOO hG rfl B.len (by intro a h;cases h) (zOB (i:=2) rfl rfl) Op1.len rfl (by decide))) (zOC zOE) Op2.fdiv)) Op2.mul
theorem zIw {g:GC}{j:Nat}(hG:GOk g)(B:Bs g)(h_takes:FnOk g j "_law_takes" zA0):WS g j (mkFS (zAd pw "_law_ends") zEo none) (bodyOf pw "_law_ends") zDP:=by
 refine WS.cons (W1.assign (i:=2) (WE.list (WA.cons (zOK (WA.cons zOE (WA.cons zOE zOI rfl) rfl)) zOI rfl)) rfl (fun _x=>rfl)) ?_;refine WS.cons ?_ (WS.cons (zO1 (zPb (WN.comp (L:=[4,5]) (zOV (zOH (i:=2) rfl rfl)) (zAu (l:=[("mark",4),("place",5)]) (by rfl)) (WTgL.tuple (is:=[4,5]) (.cons rfl (.cons rfl .nil)) (.cons rfl (.cons rfl .nil))) (zF0 rfl) zOY (zOH (i:=5) rfl rfl) (fun _x _x=>rfl)))) zOF);refine zPZ (zOV (zOH (i:=0) rfl rfl)) (WTg.name (i:=3) rfl) ?_ (fun _x _x=>rfl);refine WS.cons ?_ zOF;refine zOM (zOD (zOB (i:=3) rfl rfl) (zOC (zks (l:=[104,111,108,100]) (by kernel_rfl) (by decide +kernel))) Cmp2.eq rfl) ?_ ?_
 ·refine WS.cons ?_ zOF;refine zOU (pos:=⟨179,12,179,62⟩) (i:=2) ?_ rfl (fun env hE=>zAU (by first | exact .inl rfl | exact .inr (.inl rfl) | exact .inr (.inr rfl)) hE);refine zPb ?_;exact WN.comp (L:=[6]) (zOW B rfl (zOC (zOO hG rfl B.len (by intro a h;cases h) (zOB (i:=2) rfl rfl) Op1.len rfl (by decide))) rfl) (zAu (l:=[("k",6),("ways",2)]) (by rfl)) (WTgL.name (i:=6) rfl rfl) (zB7 (by decide)) zOY (zOK (WA.cons (zOH (i:=6) rfl rfl) (WA.cons (WE.sub (zOC (WE.sub (zOB (i:=2) rfl rfl) (zOB (i:=6) rfl rfl) (fun _x _x=>rfl))) (zOC zOE) (fun _x _x=>rfl)) zOI rfl) rfl)) (fun _x _x=>rfl)
 refine WS.cons ?_ zOF;refine zOM (zOD (zOB (i:=3) rfl rfl) (zOC (zks (l:=[102,114,101,101]) (by kernel_rfl) (by decide +kernel))) Cmp2.eq rfl) ?_ ?_
 ·refine WS.cons ?_ zOF;refine zOU (pos:=⟨181,12,181,96⟩) (i:=2) ?_ rfl (fun env hE=>zAU (by first | exact .inl rfl | exact .inr (.inl rfl) | exact .inr (.inr rfl)) hE);refine zPb ?_;refine WN.comp (L:=[7]) (zOW B rfl (zOC (zOO hG rfl B.len (by intro a h;cases h) (zOB (i:=2) rfl rfl) Op1.len rfl (by decide))) rfl) (zAu (l:=[("k",7),("ways",2)]) (by rfl)) (WTgL.name (i:=7) rfl rfl) (zB7 (by decide)) ?_ (WE.sub (zOB (i:=2) rfl rfl) (zOB (i:=7) rfl rfl) (fun _x _x=>rfl)) (fun _x _x=>rfl);refine WIfs.one ?_;refine zPG ?_;refine zOX (zOD (zOB (i:=7) rfl rfl) (zOC zOE) Cmp2.eq rfl) ?_;refine zOX ?_ zO3;exact zOD (zOC (WE.sub (zOC (WE.sub (zOB (i:=2) rfl rfl) (zOB (i:=7) rfl rfl) (fun _x _x=>rfl))) (zOC zOE) (fun _x _x=>rfl))) (zOC (WE.sub (zOC (WE.sub (zOB (i:=2) rfl rfl) (zOC (zOG (zOB (i:=7) rfl rfl) (zOC zOE) Op2.sub)) (fun _x _x=>rfl))) (zOC zOE) (fun _x _x=>rfl))) Cmp2.ne rfl
 refine WS.cons ?_ zOF;refine zOM (zOD (zOB (i:=3) rfl rfl) (zOC (zks (l:=[108,101,97,115,116]) (by kernel_rfl) (by decide +kernel))) Cmp2.eq rfl) ?_ ?_
 ·refine WS.cons ?_ zOF;refine zOU (pos:=⟨183,12,183,95⟩) (i:=2) ?_ rfl (fun env hE=>zAU (by first | exact .inl rfl | exact .inr (.inl rfl) | exact .inr (.inr rfl)) hE);refine zPb ?_;exact zPF (L:=[8,9,10]) (L2:=[10]) (zOV (zOH (i:=2) rfl rfl)) (zAu (l:=[("mark",8),("place",9),("end",10),("name",1)]) (by rfl)) (WTgL.tuple (is:=[8,9]) (.cons rfl (.cons rfl .nil)) (.cons rfl (.cons rfl .nil))) (zF0 rfl) zOY (zPs B rfl (zOB (i:=9) rfl rfl) (zOC (zOG (zOC (zOO hG rfl B.len (by intro a h;cases h) (zOB (i:=1) rfl rfl) Op1.len rfl (by decide))) (zOC zOE) Op2.add)) rfl rfl) (WTgL.name (i:=10) rfl rfl) (zB7 (by decide)) zOY (zOK (WA.cons (zOH (i:=8) rfl rfl) (WA.cons (zOH (i:=10) rfl rfl) zOI rfl) rfl)) (fun _x _x=>rfl) (fun _x _x=>rfl)
 refine WS.cons ?_ zOF;refine zOM (zOD (zOB (i:=3) rfl rfl) (zOC (zks (l:=[109,111,115,116]) (by kernel_rfl) (by decide +kernel))) Cmp2.eq rfl) ?_ ?_
 ·refine WS.cons ?_ zOF;refine zOU (pos:=⟨185,12,185,99⟩) (i:=2) ?_ rfl (fun env hE=>zAU (by first | exact .inl rfl | exact .inr (.inl rfl) | exact .inr (.inr rfl)) hE);refine zPb ?_;refine zPF (L:=[11,12,13]) (L2:=[13]) (zOV (zOH (i:=2) rfl rfl)) (zAu (l:=[("mark",11),("place",12),("end",13),("name",1)]) (by rfl)) (WTgL.tuple (is:=[11,12]) (.cons rfl (.cons rfl .nil)) (.cons rfl (.cons rfl .nil))) (zF0 rfl) zOY ?_ (WTgL.name (i:=13) rfl rfl) (zB7 (by decide)) zOY (zOK (WA.cons (zOH (i:=11) rfl rfl) (WA.cons (zOH (i:=13) rfl rfl) zOI rfl) rfl)) (fun _x _x=>rfl) (fun _x _x=>rfl);exact zO5 B rfl (zOC (zOO hG rfl B.len (by intro a h;cases h) (zOB (i:=1) rfl rfl) Op1.len rfl (by decide))) (zOC (zOG (zOB (i:=12) rfl rfl) (zOC zOE) Op2.sub)) (zOC (WE.ne (zOC zOE))) rfl rfl rfl
 refine WS.cons ?_ zOF;refine zOU (pos:=⟨187,12,187,117⟩) (i:=2) ?_ rfl (fun env hE=>zAU (by first | exact .inl rfl | exact .inr (.inl rfl) | exact .inr (.inr rfl)) hE);refine zPb ?_;refine WN.comp (L:=[14,15]) (zOV (zOH (i:=2) rfl rfl)) (zAu (l:=[("mark",14),("place",15),("step",3),("name",1)]) (by rfl)) (WTgL.tuple (is:=[14,15]) (.cons rfl (.cons rfl .nil)) (.cons rfl (.cons rfl .nil))) (zF0 rfl) ?_ (zOK (WA.cons (zOH (i:=14) rfl rfl) (WA.cons (zOG (zOB (i:=15) rfl rfl) (zOC zOE) Op2.add) zOI rfl) rfl)) (fun _x _x=>rfl);refine WIfs.one ?_;refine zOZ ?_;exact zON (zOD (zOB (i:=15) rfl rfl) (zOC (zOO hG rfl B.len (by intro a h;cases h) (zOB (i:=1) rfl rfl) Op1.len rfl (by decide))) Cmp2.lt rfl) (zON (WT.val (zOC (zOR hG rfl h_takes (WA.cons (zOH (i:=3) rfl rfl) (WA.cons (WE.sub (zOB (i:=1) rfl rfl) (zOB (i:=15) rfl rfl) (fun _x _x=>rfl)) zOI rfl) rfl) rfl (fun _x=>rfl) (by decide))) (fun _x _x=>rfl)) zOP)
theorem zJ5 {g:GC}{j:Nat}(hG:GOk g)(B:Bs g)(h_drawn:FnOk g j "_law_drawn" zCN)(h_trn:FnOk g j "translate" zEh)(h_steps:FnOk g j "_law_steps" zBR)(h_items:FnOk g j "_law_items" zCL)(h_ends:FnOk g j "_law_ends" zDO)(h_takes:FnOk g j "_law_takes" zA0):WS g j (mkFS (zAd pw "law") zEW none) (bodyOf pw "law") zG8:=by
 refine WS.cons (W1.assign (i:=0) (zOJ (zOB (i:=0) rfl rfl) zPe (WO.some zOE)) rfl (fun _x=>rfl)) ?_;refine WS.cons (zO8 (zOR hG rfl h_drawn (WA.cons (zOH (i:=0) rfl rfl) zOI rfl) rfl (fun _x=>rfl) (by decide)) (WTg.tuple (is:=[5,6]) (.cons rfl (.cons rfl .nil))) (fun _x=>rfl) (fun _x=>rfl)) ?_;refine WS.cons (W1.assign (i:=1) (zOR hG rfl h_trn (WA.cons (zOH (i:=5) rfl rfl) zOI rfl) rfl (fun _x=>rfl) (by decide)) rfl (fun _x=>rfl)) ?_;refine WS.cons (W1.assign (i:=2) (zOR hG rfl h_steps (WA.cons (zOJ (zOB (i:=1) rfl rfl) (WO.some zOE) (WO.some (WE.ne (zOC zOE)))) zOI rfl) rfl (fun _x=>rfl) (by decide)) rfl (fun _x=>rfl)) ?_;refine WS.cons ?_ ?_
 ·refine zOM ?_ (WS.cons (zO1 zO7) zOF) zOF;refine zPG ?_;refine zOX (zOD (zOC (zOJ (zOB (i:=1) rfl rfl) zPe (WO.some zOE))) (zOC (zks (l:=[40,63,115,58]) (by kernel_rfl) (by decide +kernel))) Cmp2.ne rfl) ?_;exact zOX (zOD (zOC (zOJ (zOB (i:=1) rfl rfl) (WO.some (WE.ne (zOC zOE))) zPe)) (zOC (zks (l:=[41,92,90]) (by kernel_rfl) (by decide +kernel))) Cmp2.ne rfl) (zOX (zOD (zOB (i:=2) rfl rfl) (zOC zPX) Cmp2.isNone rfl) zO3)
 refine WS.cons (W1.assign (i:=3) (zOR hG rfl h_items (WA.cons (zOH (i:=5) rfl rfl) zOI rfl) rfl (fun _x=>rfl) (by decide)) rfl (fun _x=>rfl)) ?_;refine WS.cons ?_ (WS.cons (zO1 zO7) zOF);refine zPZ ?_ (WTg.name (i:=4) rfl) ?_ (fun _x _x=>rfl)
 ·refine zOV ?_;refine zPb ?_;exact WN.comp (L:=[9]) (zOW B rfl (zOC (zOG (zOC (zOO hG rfl B.len (by intro a h;cases h) (zOB (i:=6) rfl rfl) Op1.len rfl (by decide))) (zOC zOE) Op2.add)) rfl) (zAu (l:=[("k",9),("whole",6)]) (by rfl)) (WTgL.name (i:=9) rfl rfl) (zB7 (by decide)) zOY (zOJ (zOB (i:=6) rfl rfl) (WO.some (zOH (i:=9) rfl rfl)) zPe) (fun _x _x=>rfl)
 refine WS.cons ?_ ?_
 ·refine W1.assign (i:=7) ?_ rfl (fun _x=>rfl);exact zOG (zOC (WE.list (WA.cons zO7 zOI rfl))) (zOC (zOG (zOC (WE.list (WA.cons zO7 zOI rfl))) (zOC (zOO hG rfl B.len (by intro a h;cases h) (zOB (i:=4) rfl rfl) Op1.len rfl (by decide))) Op2.mul)) Op2.add
 refine WS.cons ?_ ?_
 ·refine zPZ (zOV (zOH (i:=3) rfl rfl)) (WTg.name (i:=8) rfl) ?_ (fun _x _x=>rfl);refine WS.cons ?_ zOF;refine zOM (zOD (zOB (i:=8) rfl rfl) (zOC (zks (l:=[42]) (by kernel_rfl) (by decide +kernel))) Cmp2.eq rfl) ?_ ?_
  ·refine WS.cons ?_ zOF;refine zOU (pos:=⟨201,16,201,80⟩) (i:=7) ?_ rfl (fun env hE=>zAU (by first | exact .inl rfl | exact .inr (.inl rfl) | exact .inr (.inr rfl)) hE);refine zPb ?_;exact WN.comp (L:=[11]) (zOW B rfl (zOC (zOO hG rfl B.len (by intro a h;cases h) (zOB (i:=7) rfl rfl) Op1.len rfl (by decide))) rfl) (zAu (l:=[("k",11),("reached",7)]) (by rfl)) (WTgL.name (i:=11) rfl rfl) (zB7 (by decide)) zOY (zO9 (zOC zO7) (zOC (zOJ (zOB (i:=7) rfl rfl) zPe (WO.some (zOG (zOB (i:=11) rfl rfl) (zOC zOE) Op2.add)))) zO2 rfl) (fun _x _x=>rfl)
  refine WS.cons ?_ zOF;refine W1.assign (i:=7) ?_ rfl (fun _x=>rfl);refine zOG (zOC (WE.list (WA.cons zO7 zOI rfl))) ?_ Op2.add;refine zOC ?_;refine zPb ?_;refine WN.comp (L:=[12]) (zOW B rfl (zOC (zOO hG rfl B.len (by intro a h;cases h) (zOB (i:=4) rfl rfl) Op1.len rfl (by decide))) rfl) (zAu (l:=[("k",12),("reached",7),("item",8),("name",4)]) (by rfl)) (WTgL.name (i:=12) rfl rfl) (zB7 (by decide)) zOY ?_ (fun _x _x=>rfl);refine zQe ?_;exact WEs.and (WE.sub (zOB (i:=7) rfl rfl) (zOB (i:=12) rfl rfl) (fun _x _x=>rfl)) (WEs.one (zOR hG rfl h_takes (WA.cons (zOH (i:=8) rfl rfl) (WA.cons (WE.sub (zOB (i:=4) rfl rfl) (zOB (i:=12) rfl rfl) (fun _x _x=>rfl)) zOI rfl) rfl) rfl (fun _x=>rfl) (by decide)))
 refine WS.cons ?_ zOF;refine zOM ?_ (WS.cons (zO1 zO7) zOF) zOF;refine zOD (zOC (zOR hG rfl h_ends (WA.cons (zOH (i:=2) rfl rfl) (WA.cons (zOH (i:=4) rfl rfl) zOI rfl) rfl) rfl (fun _x=>rfl) (by decide))) ?_ Cmp2.ne rfl;refine zOC ?_;refine zPb ?_;exact WN.comp (L:=[10]) (zO5 B rfl (zOC (zOO hG rfl B.len (by intro a h;cases h) (zOB (i:=4) rfl rfl) Op1.len rfl (by decide))) (zOC (WE.ne (zOC zOE))) (zOC (WE.ne (zOC zOE))) rfl rfl rfl) (zAu (l:=[("k",10),("reached",7)]) (by rfl)) (WTgL.name (i:=10) rfl rfl) (zB7 (by decide)) (WIfs.one (WT.val (zOC (WE.sub (zOB (i:=7) rfl rfl) (zOB (i:=10) rfl rfl) (fun _x _x=>rfl))) (fun _x _x=>rfl))) (zOH (i:=10) rfl rfl) (fun _x _x=>rfl)
noncomputable abbrev nq:Str:="_translate"++".<locals>."
noncomputable abbrev known:List (Pos×Str):=[(gpos,nq++"<genexpr>"),(lpos,nq++"<lambda>")]
noncomputable abbrev zOi:Pos:=⟨189,0,206,15⟩
theorem lenS {α:Type}{vs:List α}{n:Nat}(h:vs.length=n+1):∃ v l,vs=v::l∧l.length=n:=by
 cases vs with
 | nil=>exact absurd h (Nat.succ_ne_zero n).symm
 | cons a l=>exact⟨a,l,rfl,Nat.succ.inj h⟩
theorem len1 {α:Type}{vs:List α}(h:vs.length=1):∃ v,vs=[v]:=List.length_eq_one_iff.mp h
theorem len2 {α:Type}{vs:List α}(h:vs.length=2):∃ a b,vs=[a,b]:=
 let ⟨a,l,e,h⟩:=lenS h
 let ⟨b,h⟩:=len1 h
 ⟨a,b,by rw[e,h]⟩
theorem len3 {α:Type}{vs:List α}(h:vs.length=3):∃ a b c,vs=[a,b,c]:=
 let ⟨a,l,e,h⟩:=lenS h
 let ⟨b,c,h⟩:=len2 h
 ⟨a,b,c,by rw[e,h]⟩
theorem zNt:DefIs vw "escape" (zBm pw "escape") (bodyOf pw "escape") (zAd pw "escape"):=by unfold DefIs;kernel_rfl
theorem zOv:DefIs vw "_translate" (zBm pw "_translate") (bodyOf pw "_translate") (zAd pw "_translate"):=by unfold DefIs;kernel_rfl
theorem zOw:DefIs vw "_join_translated_parts" (zBm pw "_join_translated_parts") (bodyOf pw "_join_translated_parts") (zAd pw "_join_translated_parts"):=by unfold DefIs;kernel_rfl
theorem zNp:DefIs vw "translate" (zBm pw "translate") (bodyOf pw "translate") (zAd pw "translate"):=by unfold DefIs;kernel_rfl
theorem zKl:DefIs vw "_law_drawn" (zBm pw "_law_drawn") (bodyOf pw "_law_drawn") (zAd pw "_law_drawn"):=by unfold DefIs;kernel_rfl
theorem zHf:DefIs vw "_law_bracket" (zBm pw "_law_bracket") (bodyOf pw "_law_bracket") (zAd pw "_law_bracket"):=by unfold DefIs;kernel_rfl
theorem zKk:DefIs vw "_law_items" (zBm pw "_law_items") (bodyOf pw "_law_items") (zAd pw "_law_items"):=by unfold DefIs;kernel_rfl
theorem zKi:DefIs vw "_law_takes" (zBm pw "_law_takes") (bodyOf pw "_law_takes") (zAd pw "_law_takes"):=by unfold DefIs;kernel_rfl
theorem zNr:DefIs vw "_law_one" (zBm pw "_law_one") (bodyOf pw "_law_one") (zAd pw "_law_one"):=by unfold DefIs;kernel_rfl
theorem zNq:DefIs vw "_law_set" (zBm pw "_law_set") (bodyOf pw "_law_set") (zAd pw "_law_set"):=by unfold DefIs;kernel_rfl
theorem zKj:DefIs vw "_law_steps" (zBm pw "_law_steps") (bodyOf pw "_law_steps") (zAd pw "_law_steps"):=by unfold DefIs;kernel_rfl
theorem zLk:DefIs vw "_law_ends" (zBm pw "_law_ends") (bodyOf pw "_law_ends") (zAd pw "_law_ends"):=by unfold DefIs;kernel_rfl
theorem zNs:DefIs vw "law" (zBm pw "law") (bodyOf pw "law") (zAd pw "law"):=by unfold DefIs;kernel_rfl
section
variable {g:GC} {c:Addr}
theorem zOs (b:Base g c vw nq):FnOk g 1 "escape" zEn:=by
 refine FnOk.ofW (fs:=mkFS (zAd pw "escape") zEX none) (ps:=["pattern"]) (n:=1) (extra:=fun _x=>[]) b.ok (b.fn _ _ _ _ zNt) (zAV (by decide +kernel)) rfl (fun pm cd doc vs hv=>?_) (zJ6 (j:=0) b.ok b.bs b.tab) (fun k=>⟨rfl,fun sl h=>by cases h⟩) (fun k xs r hx=>?_) (fun k xs r hx ho=>?_)
 ·refine ze11 (len1 hv) fun v z4=>?_;subst z4;rfl
 ·refine ze12 (zJ9 hx) fun c z5 z6=>?_;subst z5;subst z6;exact⟨rfl,_,rfl⟩
 ·refine ze12 (zJ9 hx) fun c z0 z1=>?_;subst z0;subst z1;rfl
theorem tr_ok (b:Base g c vw nq)(hk:g.known=known):FnOk g 3 "_translate" zET:=by
 refine FnOk.ofW (fs:=mkFS (zAd pw "_translate") zEi (some (c,nq))) (ps:=["pat","STAR","QUESTION_MARK"]) (n:=13) (extra:=fun _x=>List.replicate 10 .undef) b.ok (b.tr _ _ _ zOv) (zAV (by decide +kernel)) rfl (fun pm cd doc vs hv=>?_)
  (zLf (j:=1) b.ok b.bs b.gen (zOs b) b.pat (by rw[hk];exact zzlms) (by rw[hk];exact zzlmc _ zzlms) (fun p' q' hm h1 h2=>?_)) (fun k=>⟨rfl,fun sl h=>.inl (List.eq_of_mem_replicate h)⟩) (fun k xs r hx=>?_) (fun k xs r hx ho=>zNM hx ho)
 ·refine ze31 (len3 hv) fun a b c z2=>?_;subst z2;rfl
 ·rw[hk] at hm;rcases List.mem_cons.mp hm with e | hm
  ·cases e;exact absurd h1 (by decide)
  ·rcases List.mem_cons.mp hm with e | hm
   ·cases e;rfl
   ·cases hm
 ·refine ze33 (zLv hx) fun p a qm z3 h z4=>?_;subst z3;subst z4;exact⟨rfl,tr_B h.1 h.2⟩
mutual
theorem zHJ {k:Nat}:∀ {v:V},noObj v=true→zBP k v=true
 | .tup l,h=>zD9 (l:=l) h
 | .lst l,h=>zD9 (l:=l) h
 | .obj _,h=>absurd h zzbft
 | .none,_=>rfl
 | .int _,_=>rfl
 | .str _,_=>rfl
 | .bool _,_=>rfl
theorem zD9 {k:Nat}:∀ {l:List V},zAw l=true→zAM k l=true
 | [],_=>rfl
 | v::l,h=>Bool.and_eq_true_iff.mpr ⟨zHJ (Bool.and_eq_true_iff.mp h).1,zD9 (Bool.and_eq_true_iff.mp h).2⟩
end
theorem FnOk.ctr {g:GC}{j:Nat}{fs:FS}{name:Str}{params:Arguments}{body:List Stmt}{scope:Scope}{ps:List Str}{n m:Nat}{B:SF}{P:List V→Prop}(hG:GOk g)(hat:FnAt g name params body scope fs.code)(hb:WS g j fs body B)(hfs:FsOk fs ps n)(hsc:fs.scope=scope)
  (hbind:∀ pm cd doc (vs:List Value),vs.length=ps.length→bindArgs (docDef name params body scope pm cd doc) ⟨vs,[]⟩=pure (ps.zip vs)) (hn:m+ps.length=n)
  (hR:∀ xs,P xs→xs.length=ps.length∧∃ r,Ret B (xs.map .val++List.replicate m .undef) r∧noObj r=true):FnOk g (j+1) name (Mine.Internal.ctr P B m):=by
 refine FnOk.ofW (extra:=fun _x=>List.replicate m .undef) hG hat hfs hsc hbind hb (fun k=>⟨by rw[List.length_replicate];exact hn,fun sl h=>.inl (List.eq_of_mem_replicate h)⟩) (fun k xs r hx=>?_) fun k xs r hx _x=>?_
 ·have h:=ctr_P hx;exact⟨(hR xs h.1).1,h.2⟩
 ·refine ze02 (ctr_P hx) fun h z5=>?_;refine ze11 z5 fun η' h1=>?_;clear z5;refine ze02 (hR xs h) fun _ z6=>?_;refine ze12 z6 fun r' z0 h3=>?_;clear z6;refine ze11 z0 fun η2 h2=>?_;clear z0;have e:=h1.symm.trans h2;cases e;exact zHJ h3
theorem bind1 {α:Type}{P:List α→Prop}(h:∀ v,P [v]){n:Nat}(hn:n=1)(vs:List α)(hv:vs.length=n):P vs:=by
 refine ze11 (len1 (hn▸hv)) fun v z1=>?_;subst z1;exact h v
theorem bind2 {α:Type}{P:List α→Prop}(h:∀ v w,P [v,w]){n:Nat}(hn:n=2)(vs:List α)(hv:vs.length=n):P vs:=by
 refine ze21 (len2 (hn▸hv)) fun v w z2=>?_;subst z2;exact h v w
theorem jn_ok (b:Base g c vw nq):FnOk g 1 "_join_translated_parts" zH2:=
 FnOk.ctr (fs:=mkFS (zAd pw "_join_translated_parts") zGr none) (ps:=["inp","STAR"]) (n:=7) b.ok (b.fn _ _ _ _ zOw) (zLg (j:=0) b.ok b.bs) (zAV (by decide +kernel)) rfl (fun _x _x _x=>bind2 (fun _x _x=>rfl) rfl) rfl fun xs hx=>by
  refine ze25 hx fun l a h1 h2 h3 h4 z3=>?_;clear hx;subst z3;exact⟨rfl,_,jn_B h1 h2 h3 h4,rfl⟩
theorem zNL (b:Base g c vw nq)(hk:g.known=known):FnOk g 4 "translate" zEh:=by
 refine FnOk.ofW (fs:=mkFS (zAd pw "translate") zES none) (ps:=["pat"]) (n:=4) (extra:=fun k=>List.replicate 2 .undef++[.cnt k]) b.ok (b.fn _ _ _ _ zNp) (zAV (by decide +kernel)) rfl (fun _x _x _x=>bind1 (fun _x=>rfl) rfl)
  (zJY (j:=3) b.ok b.bs (h_tr:=tr_ok b hk) (h_jn:=(jn_ok b).mono (by decide))) (fun k=>⟨rfl,fun sl h=>?_⟩) (fun k xs r hx=>?_) (fun k xs r hx ho=>?_)
 ·rcases List.mem_append.mp h with h | h
  ·exact .inl (List.eq_of_mem_replicate h)
  ·exact .inr (by simpa using h)
 ·refine ze13 (zIR hx) fun p z4 hp z5=>?_;subst z4;subst z5;exact⟨rfl,trn_B hp⟩
 ·refine ze13 (zIR hx) fun p z6 hp z0=>?_;subst z6;subst z0;rfl
theorem zLj (b:Base g c vw nq):FnOk g 1 "_law_drawn" zCN:=
 FnOk.ctr (fs:=mkFS (zAd pw "_law_drawn") zDz none) (ps:=["script"]) (n:=8) b.ok (b.fn _ _ _ _ zKl) (zHa (j:=0) b.ok b.bs) (zAV (by decide +kernel)) rfl (fun _x _x _x=>bind1 (fun _x=>rfl) rfl) rfl fun xs hx=>by
  refine ze12 hx fun ns h1 z1=>?_;clear hx;subst z1;refine ze23 (zKg h1) fun p w _ _ h2=>?_;exact⟨rfl,_,h2,rfl⟩
theorem zIE (b:Base g c vw nq):FnOk g 1 "_law_bracket" zBG:=
 FnOk.ctr (fs:=mkFS (zAd pw "_law_bracket") zB9 none) (ps:=["inner"]) (n:=7) b.ok (b.fn _ _ _ _ zHf) (zFJ (j:=0) b.ok b.bs) (zAV (by decide +kernel)) rfl (fun _x _x _x=>bind1 (fun _x=>rfl) rfl) rfl fun xs hx=>by
  refine ze13 hx fun s h1 h2 z2=>?_;clear hx;subst z2;exact⟨rfl,_,zGy h1 h2,zBr⟩
theorem zK5 (b:Base g c vw nq):FnOk g 2 "_law_items" zCL:=
 FnOk.ctr (fs:=mkFS (zAd pw "_law_items") zDy none) (ps:=["pattern"]) (n:=5) b.ok (b.fn _ _ _ _ zKk) (zG9 (j:=1) b.ok b.bs (h_bracket:=zIE b)) (zAV (by decide +kernel)) rfl (fun _x _x _x=>bind1 (fun _x=>rfl) rfl) rfl fun xs hx=>by
  refine ze23 hx fun p P h1 h2 z3=>?_;clear hx;subst z3;refine⟨rfl,_,zJL h1 h2,?_⟩;exact zAG fun v hv=>by
   refine ze12 (List.mem_map.mp hv) fun q _ z4=>?_;subst z4;cases q with
   | none=>rfl
   | some q=>exact zBr (s:=.one q.1 q.2)
theorem zHr (b:Base g c vw nq):FnOk g 1 "_law_takes" zA0:=
 FnOk.ctr (fs:=mkFS (zAd pw "_law_takes") zDw none) (ps:=["one","sign"]) (n:=4) b.ok (b.fn _ _ _ _ zKi) (zG6 (j:=0) b.ok b.bs) (zAV (by decide +kernel)) rfl (fun _x _x _x=>bind2 (fun _x _x=>rfl) rfl) rfl fun xs hx=>by
  refine ze32 hx fun ng ps d h z5=>?_;clear hx;subst z5;exact⟨rfl,_,zIV h,rfl⟩
theorem zLF (b:Base g c vw nq):FnOk g 1 "_law_one" zCk:=
 FnOk.ctr (fs:=mkFS (zAd pw "_law_one") zEV none) (ps:=["text","k"]) (n:=3) b.ok (b.fn _ _ _ _ zNr) (zJ4 (j:=0) b.ok b.bs) (zAV (by decide +kernel)) rfl (fun _x _x _x=>bind2 (fun _x _x=>rfl) rfl) rfl fun xs hx=>by
  refine ze42 hx fun T k c k' h z6=>?_;clear hx;subst z6;exact⟨rfl,_,one_B h,rfl⟩
theorem zN1 (b:Base g c vw nq):FnOk g 2 "_law_set" zFD:=
 FnOk.ctr (fs:=mkFS (zAd pw "_law_set") zEU none) (ps:=["text","k"]) (n:=6) b.ok (b.fn _ _ _ _ zNq) (zJ3 (j:=1) b.ok b.bs (h_one:=zLF b)) (zAV (by decide +kernel)) rfl (fun _x _x _x=>bind2 (fun _x _x=>rfl) rfl) rfl fun xs hx=>by
  refine ze52 hx fun T k ng qs k' h z0=>?_;clear hx;subst z0;refine⟨rfl,_,set_B h,?_⟩;have h:zAw (qs.map vQ)=true:=zAG fun v hv=>by
   obtain⟨p,_,rfl⟩:=List.mem_map.mp hv;rfl
  show ((true&&(zAw (qs.map vQ)&&true))&&true)=true;rw[h];rfl
theorem zKH (b:Base g c vw nq):FnOk g 3 "_law_steps" zBR:=
 FnOk.ctr (fs:=mkFS (zAd pw "_law_steps") zDx none) (ps:=["text"]) (n:=11) b.ok (b.fn _ _ _ _ zKj) (zG7 (j:=2) b.ok b.bs (h_set:=zN1 b) (h_one:=(zLF b).mono (by decide))) (zAV (by decide +kernel)) rfl (fun _x _x _x=>bind1 (fun _x=>rfl) rfl) rfl fun xs hx=>by
  refine ze35 hx fun T ss n h1 h2 h3 h4 z1=>?_;clear hx;subst z1;refine⟨rfl,_,zI7 h1 h2 h3 h4 zJC,?_⟩;exact zAG fun v hv=>by
   obtain⟨s,_,rfl⟩:=List.mem_map.mp hv;exact zBr
theorem zNn (b:Base g c vw nq):FnOk g 2 "_law_ends" zDO:=
 FnOk.ctr (fs:=mkFS (zAd pw "_law_ends") zEo none) (ps:=["steps","name"]) (n:=16) b.ok (b.fn _ _ _ _ zLk) (zIw (j:=1) b.ok b.bs (h_takes:=zHr b)) (zAV (by decide +kernel)) rfl (fun _x _x _x=>bind2 (fun _x _x=>rfl) rfl) rfl fun xs hx=>by
  refine ze33 hx fun nm fs ss h1 h2 z2=>?_;clear hx;subst z2;refine⟨rfl,_,zLY h1 h2,?_⟩;exact zAG fun v hv=>by
   obtain⟨i,_,rfl⟩:=List.mem_map.mp hv;rfl
theorem zOh (b:Base g c vw nq)(hk:g.known=known):∃ fv,g.mg "law"=some (.ref fv)∧(∃ o fd,g.h0.get? fv=some o∧o.data=.func fd)∧
   ∀ (A:Around) (ids:List Addr) (W:Addr→Prop) (s':Shared) (vs:List Value) (xs:List V) (r:V),AOk (4+1) A→St0 g ids W {s' with toks:=s'.toks+1}→
    (0<s'.toks∨∃ x l,(["script"]:List Str)=x::l∧(zAd pw "law").names.lookup x=some .local)→RL ids s'.heap W vs xs→zFG xs=some r→
    wpAny (model g.prog g.w) A (call (.ref fv) vs) (PE g ids W s' r) Fl s':=by
 refine FnOk.coreW (fs:=mkFS (zAd pw "law") zEW none) (ps:=["script"]) (n:=13) (extra:=fun k=>List.replicate 12 .undef) b.ok (b.fn _ _ _ _ zNs) (zAV (by decide +kernel)) rfl (fun _x _x _x=>bind1 (fun _x=>rfl) rfl)
  (zJ5 (j:=4) b.ok b.bs (h_drawn:=(zLj b).mono (by decide)) (h_trn:=zNL b hk) (h_steps:=(zKH b).mono (by decide)) (h_items:=(zK5 b).mono (by decide)) (h_takes:=(zHr b).mono (by decide)) (h_ends:=(zNn b).mono (by decide))) (fun k=>⟨rfl,fun sl h=>.inl (List.eq_of_mem_replicate h)⟩) (fun k xs r hx=>?_) (fun k xs r hx ho=>?_)
 ·refine ze13 (zJF hx) fun ns z3 hn z4=>?_;subst z3;subst z4;exact⟨rfl,law_B⟩
 ·refine ze13 (zJF hx) fun ns z5 hn z6=>?_;subst z5;subst z6;rfl
end
set_option tactic.hygienic true in
theorem zK1:WalkO vw zCf (fun _x _x=>True) (hook zDB specials).says rwl.row.toRowW
 ⟨"law",zBm pw "law",bodyOf pw "law",zAd pw "law",zOi⟩ [] fun f vs=>PySem.call f vs:=by
 intro w s₀ s₁ mg mb G Y fa o pm cd doc dV kV ho hd hcd hD hmg hg args vals as hpre hlay hrd hwl hlo;refine ze23 (zNC (prog:=pw) (w:=w) G.T Y known) fun P c hP hC hB=>?_;have hlaw:=zOh hB rfl;clear ho hd hcd hD G Y
 wrow_args hpre hlay hrd hwl hlo
 rename_i ns _ _ _ _ _ _ _ _ _ _ _ _ _ _ hI _ hcond _;refine finish (l:=rwl) (q:=vw) (F:=zFG) (sc:=zAd pw "law") (j:=4) hP hC hg hmg (by assumption) (by assumption) (zn74 hcond) (by decide) ⟨"script",[],rfl,by decide +kernel⟩ hlaw ?_;exact law_F (zn74 hcond)
end Mine.Internal
end
section
open PySem PySem.W PySem.Calls PyProof.Rows
namespace Mine.Internal
abbrev zIl (a b:Bool):Prop:=∀ w:World,(openEnds treeTable pw ((w.withFollow "comprehension-iter-twice" a).withFollow "special-get-raises" b) 3200).map (fun s=>(openSeen vw zCf (importedModules pw.main.body) (fun s=>recOk [] s) true s,(hook zDB specials).obs s))=some (openGood vw zCf,true)
set_option maxHeartbeats 8000000 in
theorem zM3:zIl false false:=by
 intro w;unfold openEnds fencedOpening topFrom;rw[PySem.W.Fast.te10274390034422433532,PySem.W.Fast.te14082659384304107361,PySem.W.Fast.te4187177175401517315,PySem.W.Fast.te14289696077712309145,PySem.W.Fast.te14364793385576792824,PySem.W.Fast.te1435165496053646825,PySem.W.Fast.te5923862056798008813]
 kernel_rfl
set_option maxHeartbeats 8000000 in
theorem zM2:zIl false true:=by
 intro w;unfold openEnds fencedOpening topFrom;rw[PySem.W.Fast.te10274390034422433532,PySem.W.Fast.te14082659384304107361,PySem.W.Fast.te4187177175401517315,PySem.W.Fast.te14289696077712309145,PySem.W.Fast.te14364793385576792824,PySem.W.Fast.te1435165496053646825,PySem.W.Fast.te5923862056798008813]
 kernel_rfl
set_option maxHeartbeats 8000000 in
theorem zM0:zIl true false:=by
 intro w;unfold openEnds fencedOpening topFrom;rw[PySem.W.Fast.te10274390034422433532,PySem.W.Fast.te14082659384304107361,PySem.W.Fast.te4187177175401517315,PySem.W.Fast.te14289696077712309145,PySem.W.Fast.te14364793385576792824,PySem.W.Fast.te1435165496053646825,PySem.W.Fast.te5923862056798008813]
 kernel_rfl
set_option maxHeartbeats 8000000 in
theorem zMZ:zIl true true:=by
 intro w;unfold openEnds fencedOpening topFrom;rw[PySem.W.Fast.te10274390034422433532,PySem.W.Fast.te14082659384304107361,PySem.W.Fast.te4187177175401517315,PySem.W.Fast.te14289696077712309145,PySem.W.Fast.te14364793385576792824,PySem.W.Fast.te1435165496053646825,PySem.W.Fast.te5923862056798008813]
 kernel_rfl
theorem zM1:LeftO pw vw zCf (fun s=>recOk [] s) (hook zDB specials).obs (hook zDB specials).val 3200:=by
 intro w;refine byRow2 "special-get-raises" (P:=fun w=>(openEnds treeTable pw w 3200).map (fun s=>(openSeen vw zCf (importedModules pw.main.body) (fun s=>recOk [] s) true s,(hook zDB specials).obs s))=some (openGood vw zCf,true)) ?_ ?_ w
 ·exact byRow2 "comprehension-iter-twice" zM3 zM0
 ·exact byRow2 "comprehension-iter-twice" zM2 zMZ
theorem zME:rwl.wellSaid=true:=by kernel_rfl
end Mine.Internal
end
open PySem PySem.W PySem.Calls PyProof.Rows
set_option maxHeartbeats 8000000 in
theorem PySem.Challenge.cw_io0066_06_holds : PySem.Challenge.rw_io0066_06.Holds := by
 refine holds_law Mine.Internal.zME fun said=>?_;refine holds_open (q:=Mine.Internal.vw) (loose:=Mine.Internal.zCf) (Xt:=fun s=>recOk [] s) (XP:=fun _x _x=>True) (YP:=(Mine.Internal.hook Mine.Internal.zDB Mine.Internal.specials).says) (N:=3200) Mine.Internal.zM1 (Hook.of _) (Hook.keeps _) (fun _x _x=>trivial) (fun _x _x _x x _x=>x) (by rfl) (by rfl) (by rfl) (fun s e=>recFacts_of e) (by rfl) said (by decide +kernel) ⟨rfl,rfl,rfl,rfl,rfl,by decide +kernel⟩ ?hw Mine.Internal.zK1
 case hw=>w_witness2
